/-
  Messages and entries in memory: predicates on worlds. Walks of zzGrow (16) and zzSize (12).
-/
import Derived.Test.Qxb6603782aProg
import Derived.WalkKit
import Derived.WalkLawsBesides
import Derived.Deep.OwnRows
namespace Go.Proofs.Qxb6603782a
open Go.RowKit

/-- The cells of a Message. -/
structure MsgC where
  s0 : ByteArray
  s1 : ByteArray
  s2 : ByteArray
  x3 : Int
  x4 : Int
  x5 : Int
  ea : Option Addr
  en : Nat
  ec : Nat
  x7 : Int
  b8 : Bool
  x9 : Int
  x10 : Int
  x11 : Int
  x12 : Int
  da : Option Addr
  dn : Nat
  dc : Nat
  b14 : Bool

/-- The cells of an Entry. -/
structure EntC where
  y0 : Int
  y1 : Int
  xa : Option Addr
  xl : Nat
  xc : Nat

def msgAt (w : World) (b p : Nat) (m : MsgC) : Prop :=
  w.cell? ⟨b, p, none⟩ = some (.string m.s0) ∧ w.cell? ⟨b, p + 1, none⟩ = some (.string m.s1) ∧ w.cell? ⟨b, p + 2, none⟩ = some (.string m.s2) ∧ w.cell? ⟨b, p + 3, none⟩ = some (.int .u64 m.x3) ∧
  w.cell? ⟨b, p + 4, none⟩ = some (.int .u64 m.x4) ∧ w.cell? ⟨b, p + 5, none⟩ = some (.int .u64 m.x5) ∧ w.cell? ⟨b, p + 6, none⟩ = some (.slice m.ea m.en m.ec) ∧ w.cell? ⟨b, p + 7, none⟩ = some (.int .u64 m.x7) ∧
  w.cell? ⟨b, p + 8, none⟩ = some (.bool m.b8) ∧ w.cell? ⟨b, p + 9, none⟩ = some (.int .u64 m.x9) ∧ w.cell? ⟨b, p + 10, none⟩ = some (.int .u64 m.x10) ∧ w.cell? ⟨b, p + 11, none⟩ = some (.int .u64 m.x11) ∧
  w.cell? ⟨b, p + 12, none⟩ = some (.int .u64 m.x12) ∧ w.cell? ⟨b, p + 13, none⟩ = some (.slice m.da m.dn m.dc) ∧ w.cell? ⟨b, p + 14, none⟩ = some (.bool m.b14)

def entAt (w : World) (b p : Nat) (x : EntC) : Prop :=
  w.cell? ⟨b, p, none⟩ = some (.int .u64 x.y0) ∧ w.cell? ⟨b, p + 1, none⟩ = some (.int .u64 x.y1) ∧ w.cell? ⟨b, p + 2, none⟩ = some (.slice x.xa x.xl x.xc)

/-- n entries E lie at a. -/
def entsAt (w : World) (a : Option Addr) (n : Nat) (E : Nat → EntC) : Prop := n = 0 ∨ ∃ b o, a = some ⟨b, o, none⟩ ∧ ∀ j, j < n → entAt w b (o + j * 3) (E j)

theorem cell_on {w w' : World} {b p : Nat} {v : Value} (h : w.cell? ⟨b, p, none⟩ = some v) (hb : Below w.heap.size w w') : w'.cell? ⟨b, p, none⟩ = some v := (hb.cell (World.block_lt_of_cell? _ _ h)).trans h

theorem entAt.below {w w' : World} {b p : Nat} {x : EntC} (h : entAt w b p x) (hb : Below w.heap.size w w') : entAt w' b p x := ⟨cell_on h.1 hb, cell_on h.2.1 hb, cell_on h.2.2 hb⟩

theorem entsAt.below {w w' : World} {a : Option Addr} {n : Nat} {E : Nat → EntC} (h : entsAt w a n E) (hb : Below w.heap.size w w') : entsAt w' a n E := by
  rcases h with h | ⟨b, o, h1, h2⟩
  · exact .inl h
  · exact .inr ⟨b, o, h1, fun j hj => (h2 j hj).below hb⟩

theorem msgAt.below {w w' : World} {b p : Nat} {m : MsgC} (h : msgAt w b p m) (hb : Below w.heap.size w w') : msgAt w' b p m := by
  obtain ⟨h0, h1, h2, h3, h4, h5, h6, h7, h8, h9, h10, h11, h12, h13, h14⟩ := h
  exact ⟨cell_on h0 hb, cell_on h1 hb, cell_on h2 hb, cell_on h3 hb, cell_on h4 hb, cell_on h5 hb, cell_on h6 hb, cell_on h7 hb, cell_on h8 hb, cell_on h9 hb, cell_on h10 hb, cell_on h11 hb, cell_on h12 hb, cell_on h13 hb, cell_on h14 hb⟩

/-- The data bytes of the first k entries. -/
def szTo (E : Nat → EntC) : Nat → Nat
  | 0 => 0
  | k + 1 => szTo E k + (E k).xl

theorem szTo_le (E : Nat → EntC) (n : Nat) (h : ∀ j, j < n → (E j).xl ≤ 1048576) : szTo E n ≤ n * 1048576 := by
  induction n with
  | zero => simp [szTo]
  | succ n ih =>
    have := ih (fun j hj => h j (by omega))
    have := h n (by omega)
    simp only [szTo]
    omega

/-- What zzGrow gives. -/
def GrowPost (w : World) (e : Ending) (w' : World) : Prop := ∃ (t' : Nat) (ok : Bool), e = .returned (.tuple #[.int .i64 t', .bool ok]) ∧ t' ≤ 1048576 ∧ w' = w

set_option maxHeartbeats 400000 in
theorem grow_any (t l : Nat) (w : World) (ht : t ≤ 1048576) (hl : l ≤ 9223372036854775807) : Calls Try.prog 16 #[.int .i64 t, .int .i64 l] w fun e w' => GrowPost w e w' := by
  by_cases h : t + l ≤ 1048576
  · go_enter Try.func16, Try.ntmps16
    go_wp2
    go_ret2
    exact ⟨t + l, true, by simp, h, rfl⟩
  · go_enter Try.func16, Try.ntmps16
    go_wp2
    go_ret2
    exact ⟨t, false, rfl, ht, rfl⟩

set_option maxHeartbeats 1000000 in
theorem size_some (m : MsgC) (E : Nat → EntC) (eb eo : Nat) (hea : m.ea = some ⟨eb, eo, none⟩) (w : World) (hn : m.en ≤ 1048576) (hx : ∀ j, j < m.en → (E j).xl ≤ 1048576) (heb : eb < w.heap.size) (he : ∀ j, j < m.en → entAt w eb (eo + j * 3) (E j)) :
    Calls Try.prog 12 #[.agg #[.string m.s0, .string m.s1, .string m.s2, .int .u64 m.x3, .int .u64 m.x4, .int .u64 m.x5, .slice m.ea m.en m.ec, .int .u64 m.x7, .bool m.b8, .int .u64 m.x9, .int .u64 m.x10, .int .u64 m.x11, .int .u64 m.x12, .slice m.da m.dn m.dc, .bool m.b14]] w
      fun e w' => e = .returned (.int .i64 (szTo E m.en)) ∧ Below w.heap.size w w' := by
  rw [hea]
  have HE : Hid (m.ea = some ⟨eb, eo, none⟩) := hea
  clear hea
  go_enter Try.func12, Try.ntmps12
  go_wp2
  go_loop [3, 4] (fun s i => ∃ k : Nat, k ≤ m.en ∧ i = .int .i64 k ∧ s = .int .i64 (szTo E k)) (fun _ i => m.en - (intOf i).toNat)
  case atStart => exact ⟨0, Nat.zero_le _, rfl, rfl⟩
  case round =>
    obtain ⟨k, hk, rfl, rfl⟩ := hrel
    by_cases hlt : k < m.en
    · have hs := szTo_le E k (fun j hj => hx j (by omega))
      have hl := hx k hlt
      obtain ⟨_, _, hc⟩ := he k hlt
      have HS : Hid (szTo E (k + 1) = szTo E k + (E k).xl) := rfl
      clear hx he
      go_wp2
      go_round
      case rel => exact ⟨k + 1, by omega, by go_num, by rw [HS.out]; go_num⟩
      case measure => simp [intOf]; omega
    · obtain rfl : k = m.en := by omega
      go_wp2
      go_ret
      exact ⟨rfl, (Below.refl _ _).alloc (Nat.le_refl _) _⟩
end Go.Proofs.Qxb6603782a
