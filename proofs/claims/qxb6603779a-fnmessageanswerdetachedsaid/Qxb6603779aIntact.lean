/-
  The walk of requestIntact (19).
-/
import Derived.Test.Qxb6603779aSame
import Derived.Test.Qxb6603779aBuild
import Derived.Deep.QuietTactic
import Derived.BigQuiet
import Derived.LaidEqlPtr
namespace Go.Proofs.Qxb6603779a
open Go.RowKit

theorem same_bytes (a1 a2 : Option Addr) (n c1 c2 : Nat) (z : Nat → Int) (w : World) (hn : n ≤ 1048576) (h1 : bytesAt w a1 n c1 z) (h2 : bytesAt w a2 n c2 z) :
    Calls Try.prog 10 #[.slice a1 n c1, .slice a2 n c2] w fun e w' => e = .returned (.bool true) ∧ ∃ m, w' = w.drewN m := by
  by_cases h0 : n = 0
  · subst h0
    exact same_empty a1 a2 c1 c2 w
  · rcases h1 with ⟨_, h, _⟩ | ⟨x1, rfl, q1⟩
    · exact absurd h h0
    rcases h2 with ⟨_, h, _⟩ | ⟨x2, rfl, q2⟩
    · exact absurd h h0
    obtain ⟨b1, o1, s1⟩ := x1
    obtain ⟨b2, o2, s2⟩ := x2
    have e1 : s1 = none := by simpa [Addr.add] using World.cell?_spot (q1 0 (by omega))
    have e2 : s2 = none := by simpa [Addr.add] using World.cell?_spot (q2 0 (by omega))
    subst e1 e2
    simp only [add_plain'] at q1 q2
    exact same_cells b1 o1 b2 o2 n c1 c2 z w (by omega) q1 q2

theorem below_drewN {B : Nat} {a w : World} (h : Below B a w) (m : Nat) : Below B a (w.drewN m) := ⟨h.os, h.tape, h.output, h.size, h.block⟩

theorem bytes_later {w : World} {a : Option Addr} {n c : Nat} {z : Nat → Int} (h : bytesAt w a n c z) (o : Obj) (m : Nat) : bytesAt ((w.alloc o).drewN m) a n c z :=
  h.below (below_drewN ((Below.refl _ _).alloc (Nat.le_refl _) _) m)

theorem drew_assoc (w : World) (a b m : Nat) : (w.drewN (a + b)).drewN m = w.drewN (a + (b + m)) := by simp [World.drewN, Nat.add_assoc]

set_option maxHeartbeats 1000000 in
theorem intact_nil (g : Nat) (f c p h e : Int) (w : World) (hm : msgAt w g f c p h e (.slice none 0 0)) :
    Calls Try.prog 19 #[.pointer (some ⟨g, 0, none⟩), .int .u8 f, .int .u32 c, .int .u32 p, .int .u32 h, .int .u32 e, .slice none 0 0] w fun e' w' => e' = .returned (.bool true) ∧ w' = w := by
  obtain ⟨c0, c1, c2, c3, c4, c5⟩ := hm
  have hnil := eqnil40
  have hnil2 := eqnil31
  go_enter Try.func19, Try.ntmps19
  go_wp2
  refine wp_loop_rounds 1 ?_
  rw [rounds_succ]
  go_wp2
  go_ret
  exact ⟨rfl, rfl⟩

set_option maxRecDepth 20000 in
set_option maxHeartbeats 2000000 in
theorem intact_rows (g g1 g2 n lo1 lo2 : Nat) (R : AvpC) (f c p h e : Int) (w : World) (hn : n ≤ 65536) (hL : ∀ i, i < n → R.L i ≤ 1048576) (hm : msgOwn w g f c p h e (.slice (some ⟨g2, 0, none⟩) n n))
    (h1 : partAt w lo1 g1 46 n n R) (h2 : partAt w lo2 g2 44 n n R) :
    Calls Try.prog 19 #[.pointer (some ⟨g, 0, none⟩), .int .u8 f, .int .u32 c, .int .u32 p, .int .u32 h, .int .u32 e, .slice (some ⟨g1, 0, none⟩) n n] w fun e' w' => e' = .returned (.bool true) ∧ Below w.heap.size w w' := by
  obtain ⟨c0, c1, c2, c3, c4, c5⟩ := hm.at
  have hnil := eqnil40
  have hnil2 := eqnil31
  go_enter Try.func19, Try.ntmps19
  go_wp2
  clear c0 c1 c2 c3 c4 c5
  go_loopw [15] (fun i wr => ∃ k : Nat, k ≤ n ∧ i = .int .i64 k ∧ Below w.heap.size w wr) (fun i _ => n - (intOf i).toNat)
  case atStart => exact ⟨0, Nat.zero_le _, rfl, Below.refl _ _⟩
  case round =>
    obtain ⟨k, hk, rfl, hB⟩ := hrel
    clear hnil hnil2
    by_cases hlt : k < n
    · obtain ⟨_, _, _, _, _, c5⟩ := (hm.below hB).at
      obtain ⟨a1, d1, s0, s1, s2, s3, s4, s5⟩ := (h1.below hB).src k hlt
      obtain ⟨a2, d2, t0, t1, t2, t3, t4, t5⟩ := (h2.below hB).src k hlt
      simp only [Nat.zero_add] at s0 s1 s2 s3 t0 t1 t2 t3
      have HB : Hid (Below w.heap.size w wr) := hB
      have S4 : Hid (bytesAt wr a1 (R.L k) d1 (R.Z k)) := s4
      have T4 : Hid (bytesAt wr a2 (R.L k) d2 (R.Z k)) := t4
      have hl := hL k hlt
      have hz : w.heap.size ≤ wr.heap.size := hB.size
      have g1z : g1 < wr.heap.size := by have := h1.lt; omega
      clear s4 t4 hB hm h1 h2 hL
      have e1 : (0 : Int) ≤ (k : Int) := by omega
      have e2 : (k : Int) < (n : Int) := by omega
      have hnil := eqnil22
      go_wp2
      go_quiet (fail)
      go_wp2
      go_quiet ((go_at_call 10; refine (same_bytes _ _ _ _ _ (R.Z k) _ hl ?_ ?_).mono ?_; exact bytes_later T4.out _ _; exact bytes_later S4.out _ _; rintro e' w'' ⟨rfl, m, rfl⟩; exact ⟨rfl, _, drew_assoc _ _ _ _⟩))
      go_wp2
      go_roundw
      case rel => exact ⟨k + 1, by omega, by go_num, below_drewN (HB.out.alloc hz _) _⟩
      case measure => simp [intOf]; omega
    · go_wp2
      go_ret
      exact ⟨rfl, hB⟩

theorem intact_any (g : Nat) (a1 a2 : Option Addr) (n c1 c2 lo1 lo2 : Nat) (R : AvpC) (f c p h e : Int) (w : World) (hn : n ≤ 65536) (hL : ∀ i, i < n → R.L i ≤ 1048576) (hm : msgOwn w g f c p h e (.slice a2 n c2))
    (h1 : avpsOwn w lo1 46 a1 n c1 R) (h2 : avpsOwn w lo2 44 a2 n c2 R) (hen : a2.isNone = a1.isNone) :
    Calls Try.prog 19 #[.pointer (some ⟨g, 0, none⟩), .int .u8 f, .int .u32 c, .int .u32 p, .int .u32 h, .int .u32 e, .slice a1 n c1] w fun e' w' => e' = .returned (.bool true) ∧ Below w.heap.size w w' := by
  rcases h1 with ⟨rfl, rfl, rfl⟩ | ⟨g1, rfl, rfl, _, h1⟩
  · rcases h2 with ⟨rfl, _, rfl⟩ | ⟨g2, rfl, _⟩
    · refine (intact_nil g f c p h e w hm.at).mono ?_
      rintro e' w' ⟨rfl, rfl⟩
      exact ⟨rfl, Below.refl _ _⟩
    · simp at hen
  · rcases h2 with ⟨rfl, _, rfl⟩ | ⟨g2, rfl, rfl, _, h2⟩
    · simp at hen
    · exact intact_rows g g1 g2 _ _ _ R f c p h e w hn hL hm h1 h2

theorem Try.info42m : (Try.prog.info? 42).map (fun i => (i.zero, i.size, i.bytes)) = some (some (.agg #[.int .u8 0, .int .u32 0, .int .u32 0, .int .u32 0, .int .u32 0, .slice none 0 0]), 6, 48) := by kernel_rfl

/-- Two Messages in two blocks: their addresses differ. -/
theorem ptr_apart {w : World} {g1 g2 : Nat} {f1 f2 : Nat → Value} (h1 : w.rowIs g1 42 6 f1) (h2 : w.rowIs g2 42 6 f2) (hne : ¬ g1 = g2) :
    (binOp .eql 35 (.pointer (some ⟨g1, 0, none⟩)) (.pointer (some ⟨g2, 0, none⟩))).run Try.prog w = .ok (.bool false) w := by
  obtain ⟨i, hi, hz, hs, hb⟩ := info_parts Try.info42m
  obtain ⟨c1, e1, _⟩ := h1
  obtain ⟨c2, e2, _⟩ := h2
  exact run_eql_ptr_other w (tp := 35) (te := 42) Try.underlying35 hi (by omega) (fun h => hne (congrArg Addr.block h)) e1 e2

theorem avpsOwn.below {w w' : World} {lo t n c : Nat} {a : Option Addr} {R : AvpC} (h : avpsOwn w lo t a n c R) (hb : Below w.heap.size w w') : avpsOwn w' lo t a n c R := by
  rcases h with h | ⟨g, h1, h2, h3, h4⟩
  · exact .inl h
  · exact .inr ⟨g, h1, h2, h3, h4.below hb⟩
end Go.Proofs.Qxb6603779a
