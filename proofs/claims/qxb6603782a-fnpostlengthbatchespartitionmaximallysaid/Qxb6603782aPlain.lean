/-
  The plain law: the longest leading run within the bound is one number. And what a slice of Messages holds.
-/
import Derived.Test.Qxb6603782aMsgs
namespace Go.Proofs.Qxb6603782a
open Go.RowKit

/-- A slice of n Messages M with entries E lies at a. -/
def rowAt (w : World) (a : Option Addr) (n : Nat) (M : Nat → MsgC) (E : Nat → Nat → EntC) : Prop :=
  n = 0 ∨ ∃ b o, a = some ⟨b, o, none⟩ ∧ ∀ i, i < n → msgAt w b (o + i * 15) (M i) ∧ entsAt w (M i).ea (M i).en (E i)

theorem rowAt.below {w w' : World} {a : Option Addr} {n : Nat} {M : Nat → MsgC} {E : Nat → Nat → EntC} (h : rowAt w a n M E) (hb : Below w.heap.size w w') : rowAt w' a n M E := by
  rcases h with h | ⟨b, o, h1, h2⟩
  · exact .inl h
  · exact .inr ⟨b, o, h1, fun i hi => ⟨(h2 i hi).1.below hb, (h2 i hi).2.below hb⟩⟩

/-- No list and no data is longer than 2 to the 20. -/
def Bound (n : Nat) (M : Nat → MsgC) (E : Nat → Nat → EntC) : Prop := ∀ i, i < n → (M i).en ≤ 1048576 ∧ ∀ j, j < (M i).en → (E i j).xl ≤ 1048576

/-- The entry bytes of the first k Messages. -/
def PTo (M : Nat → MsgC) (E : Nat → Nat → EntC) : Nat → Nat
  | 0 => 0
  | k + 1 => PTo M E k + szTo (E k) (M k).en

theorem sz_le {n : Nat} {M : Nat → MsgC} {E : Nat → Nat → EntC} (h : Bound n M E) {k : Nat} (hk : k < n) : szTo (E k) (M k).en ≤ 1099511627776 := by
  have h1 := szTo_le (E k) (M k).en (h k hk).2
  have h2 := (h k hk).1
  omega

theorem PTo_le {n : Nat} {M : Nat → MsgC} {E : Nat → Nat → EntC} (h : Bound n M E) (k : Nat) (hk : k ≤ n) : PTo M E k ≤ k * 1099511627776 := by
  induction k with
  | zero => simp [PTo]
  | succ k ih =>
    have h1 := ih (by omega)
    have h2 := sz_le h (show k < n by omega)
    simp only [PTo]
    omega

/-- r is the longest leading run within the bound, but at least one. -/
def MaxRun (n : Nat) (P : Nat → Nat) (r : Nat) : Prop := r ≤ n ∧ (0 < n → 0 < r) ∧ (1 < r → P r ≤ 131072) ∧ (r < n → 131072 < P (r + 1))

theorem mono_of_succ {P : Nat → Nat} (h : ∀ k, P k ≤ P (k + 1)) : ∀ {a b : Nat}, a ≤ b → P a ≤ P b := by
  intro a b hab
  induction b with
  | zero => have : a = 0 := by omega
            rw [this]; exact Nat.le_refl _
  | succ b ih =>
    by_cases e : a = b + 1
    · rw [e]; exact Nat.le_refl _
    · exact Nat.le_trans (ih (by omega)) (h b)

theorem MaxRun.unique {n : Nat} {P : Nat → Nat} (hP : ∀ k, P k ≤ P (k + 1)) {r k : Nat} (h : MaxRun n P r) (g : MaxRun n P k) : r = k := by
  obtain ⟨r1, r2, r3, r4⟩ := h
  obtain ⟨k1, k2, k3, k4⟩ := g
  by_cases h1 : r < k
  · have a1 := r4 (by omega)
    have a2 := k3 (by have := r2 (by omega); omega)
    have a3 := mono_of_succ hP (show r + 1 ≤ k by omega)
    omega
  · by_cases h2 : k < r
    · have a1 := k4 (by omega)
      have a2 := r3 (by have := k2 (by omega); omega)
      have a3 := mono_of_succ hP (show k + 1 ≤ r by omega)
      omega
    · omega

theorem PTo_succ (M : Nat → MsgC) (E : Nat → Nat → EntC) (k : Nat) : PTo M E k ≤ PTo M E (k + 1) := by simp only [PTo]; omega

theorem PTo_congr {M M' : Nat → MsgC} {E E' : Nat → Nat → EntC} {n : Nat} (h : ∀ i, i < n → szTo (E i) (M i).en = szTo (E' i) (M' i).en) : ∀ k, k ≤ n → PTo M E k = PTo M' E' k := by
  intro k hk
  induction k with
  | zero => rfl
  | succ k ih => simp only [PTo]; rw [ih (by omega), h k (by omega)]

/-- The same from Message d on. -/
theorem PTo_shift (M : Nat → MsgC) (E : Nat → Nat → EntC) (d k : Nat) : PTo M E (d + k) = PTo M E d + PTo (fun i => M (d + i)) (fun i => E (d + i)) k := by
  induction k with
  | zero => rfl
  | succ k ih =>
    show PTo M E (d + k + 1) = _
    simp only [PTo]
    rw [ih]
    omega

set_option maxHeartbeats 1000000 in
theorem size_none (m : MsgC) (E : Nat → EntC) (w : World) (h0 : m.en = 0) :
    Calls Try.prog 12 #[.agg #[.string m.s0, .string m.s1, .string m.s2, .int .u64 m.x3, .int .u64 m.x4, .int .u64 m.x5, .slice m.ea m.en m.ec, .int .u64 m.x7, .bool m.b8, .int .u64 m.x9, .int .u64 m.x10, .int .u64 m.x11, .int .u64 m.x12, .slice m.da m.dn m.dc, .bool m.b14]] w
      fun e w' => e = .returned (.int .i64 (szTo E m.en)) ∧ Below w.heap.size w w' := by
  rw [h0]
  go_enter Try.func12, Try.ntmps12
  go_wp2
  refine wp_loop_rounds 1 ?_
  rw [rounds_succ]
  go_wp2
  go_ret
  exact ⟨rfl, (Below.refl _ _).alloc (Nat.le_refl _) _⟩

theorem size_any (m : MsgC) (E : Nat → EntC) (w : World) (hn : m.en ≤ 1048576) (hx : ∀ j, j < m.en → (E j).xl ≤ 1048576) (he : entsAt w m.ea m.en E) :
    Calls Try.prog 12 #[.agg #[.string m.s0, .string m.s1, .string m.s2, .int .u64 m.x3, .int .u64 m.x4, .int .u64 m.x5, .slice m.ea m.en m.ec, .int .u64 m.x7, .bool m.b8, .int .u64 m.x9, .int .u64 m.x10, .int .u64 m.x11, .int .u64 m.x12, .slice m.da m.dn m.dc, .bool m.b14]] w
      fun e w' => e = .returned (.int .i64 (szTo E m.en)) ∧ Below w.heap.size w w' := by
  by_cases h0 : m.en = 0
  · exact size_none m E w h0
  · obtain ⟨b, o, h1, h2⟩ := he.resolve_left h0
    exact size_some m E b o h1 w hn hx (World.block_lt_of_cell? _ _ (h2 0 (by omega)).1) h2
end Go.Proofs.Qxb6603782a
