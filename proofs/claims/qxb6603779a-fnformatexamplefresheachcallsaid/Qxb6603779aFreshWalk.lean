/-
  The walk of FnFormatExampleFreshEachCall (function 3).
-/
import Derived.Test.Qxb6603779aSame
import Derived.Test.Qxb6603779aExample
namespace Go.Proofs.Qxb6603779a
open Go.RowKit

theorem ex_small (f : Int) : (exBytes f).length ≤ 8 := by
  unfold exBytes
  repeat' split
  all_goals decide

/-- The row that Example lays. -/
def exRow (f : Int) : Nat → Value := fun i => .int .u8 ((exBytes f)[i]?.getD 0)

theorem ex_row (f : Int) (w : World) : (w.alloc (.cells ((exBytes f).map (Value.int .u8)).toArray 5)).rowIs w.heap.size 5 (exBytes f).length (exRow f) := by
  have h := World.rowIs_alloc w ((exBytes f).map (Value.int .u8)).toArray 5 (exRow f) (fun i hi => by
    simp at hi
    simp [exRow, hi])
  simpa using h

theorem example_row (f : Int) (w : World) : Calls Try.prog 8 #[.int .u8 f] w fun e w' => e = .returned (.slice (some ⟨w.heap.size, 0, none⟩) (exBytes f).length (exBytes f).length) ∧
    w'.rowIs w.heap.size 5 (exBytes f).length (exRow f) ∧ Below w.heap.size w w' ∧ w'.heap.size = w.heap.size + 1 ∧ Grown w w' := by
  refine (example_any f w).mono ?_
  rintro e w' ⟨rfl, rfl⟩
  exact ⟨rfl, ex_row f w, (Below.refl _ _).alloc (Nat.le_refl _) _, by simp, (Grown.refl _).alloc _ _⟩

theorem table_row (f : Int) (w : World) : Calls Try.prog 9 #[.int .u8 f] w fun e w' => e = .returned (.slice (some ⟨w.heap.size, 0, none⟩) (exBytes f).length (exBytes f).length) ∧
    w'.rowIs w.heap.size 5 (exBytes f).length (exRow f) ∧ Below w.heap.size w w' ∧ w'.heap.size = w.heap.size + 1 ∧ Grown w w' := by
  refine (table_any f w).mono ?_
  rintro e w' ⟨rfl, rfl⟩
  exact ⟨rfl, ex_row f w, (Below.refl _ _).alloc (Nat.le_refl _) _, by simp, (Grown.refl _).alloc _ _⟩

theorem row_below {w w' : World} {B b t n : Nat} {f : Nat → Value} (h : w.rowIs b t n f) (hb : Below B w w') (hlt : b < B) : w'.rowIs b t n f := h.of_block (hb.block b hlt)

theorem grown_trans {a b c : World} (h : Grown a b) (k : Grown b c) : Grown a c := by
  refine ⟨World.keptBut_trans h.1 (World.keptBut_mono (fun _ f => f.elim) k.1), fun x => (k.2.1 x).trans (h.2.1 x), Nat.le_trans h.2.2 k.2.2⟩

theorem grown_drewN {a b : World} (h : Grown a b) (m : Nat) : Grown a (b.drewN m) := h

theorem same_rows {w : World} {b1 b2 n : Nat} {f : Int} (hn : n ≤ 8) (h1 : w.rowIs b1 5 n (exRow f)) (h2 : w.rowIs b2 5 n (exRow f)) (c1 c2 : Nat) :
    Calls Try.prog 10 #[.slice (some ⟨b1, 0, none⟩) n c1, .slice (some ⟨b2, 0, none⟩) n c2] w fun e w' => e = .returned (.bool true) ∧ ∃ m, w' = w.drewN m :=
  same_cells b1 0 b2 0 n c1 c2 (fun i => (exBytes f)[i]?.getD 0) w (by omega) (fun i hi => by rw [Nat.zero_add]; exact h1.cell hi) (fun i hi => by rw [Nat.zero_add]; exact h2.cell hi)

set_option maxHeartbeats 400000 in
theorem fresh_walk (f : Int) (w : World) : Calls Try.prog 3 #[.int .u8 f] w fun e w' => e = .returned (.bool true) ∧ Grown w w' := by
  have hs := ex_small f
  go_enter Try.func3, Try.ntmps3
  go_wp2_with fail
  refine (example_row f _).mono ?_
  rintro e w1 ⟨rfl, r1, b1, s1, g1⟩
  have S1 : Hid (w1.heap.size = w.heap.size + 1) := s1
  have R1 : Hid (w1.rowIs w.heap.size 5 (exBytes f).length (exRow f)) := r1
  clear r1 s1
  go_wp2_with fail
  refine (example_row f _).mono ?_
  rintro e w2 ⟨rfl, r2, b2, s2, g2⟩
  have S2 : Hid (w2.heap.size = w1.heap.size + 1) := s2
  have R2 : Hid (w2.rowIs w1.heap.size 5 (exBytes f).length (exRow f)) := r2
  have hlt : w.heap.size < w1.heap.size := by rw [S1.out]; omega
  clear r2 s2
  go_wp2_with fail
  go_loopw [5] (fun i wr => ∃ k : Nat, k ≤ (exBytes f).length ∧ i = .int .i64 k ∧ (∃ g, wr.rowIs w.heap.size 5 (exBytes f).length g) ∧ wr.rowIs w1.heap.size 5 (exBytes f).length (exRow f) ∧ Grown w wr ∧ w1.heap.size < wr.heap.size)
    (fun i _ => (exBytes f).length - (intOf i).toNat)
  case atStart => exact ⟨0, Nat.zero_le _, rfl, ⟨_, row_below R1.out b2 hlt⟩, R2.out, grown_trans g1 g2, by rw [S2.out]; omega⟩
  case round =>
    obtain ⟨k, hk, rfl, ⟨g, rA⟩, rB, hg, hz⟩ := hrel
    by_cases hkn : k < (exBytes f).length
    · have cA := rA.cell hkn
      have fA := rA.frozen k
      have RA : Hid (wr.rowIs w.heap.size 5 (exBytes f).length g) := rA
      have RB : Hid (wr.rowIs w1.heap.size 5 (exBytes f).length (exRow f)) := rB
      clear rA rB
      go_wp2
      go_roundw
      case rel => exact ⟨k + 1, by omega, by go_num, ⟨_, RA.out.set k _⟩, RB.out.setOther (by show w1.heap.size ≠ w.heap.size; omega) _, hg.setCell (Nat.le_refl _) _, by simpa using hz⟩
      case measure => simp [intOf]; omega
    · go_wp2_with fail
      refine (example_row f _).mono ?_
      rintro e w3 ⟨rfl, r3, b3, s3, g3⟩
      have rB3 := row_below rB b3 hz
      have z3 : w1.heap.size < w3.heap.size := by omega
      have z3' : wr.heap.size < w3.heap.size := by omega
      have S3 : Hid (w3.heap.size = wr.heap.size + 1) := s3
      clear s3 rA rB
      go_wp2_with fail
      refine (table_row f _).mono ?_
      rintro e w4 ⟨rfl, r4, b4, s4, g4⟩
      have q1 := row_below rB3 b4 z3
      have q2 := row_below r3 b4 z3'
      have G : Hid (Grown w w4) := grown_trans (grown_trans hg g3) g4
      clear s4 hg g3 g4 b1 b2 b3 b4 rB3 r3 g1 g2 R1 R2 S1 S2 S3
      go_wp2_with fail
      refine (same_rows hs q1 r4 _ _).mono ?_
      rintro e w5 ⟨rfl, m, rfl⟩
      have q2' : (w4.drewN m).rowIs wr.heap.size 5 (exBytes f).length (exRow f) := q2
      have r4' : (w4.drewN m).rowIs w3.heap.size 5 (exBytes f).length (exRow f) := r4
      go_wp2_with fail
      refine (same_rows hs q2' r4' _ _).mono ?_
      rintro e w6 ⟨rfl, m', rfl⟩
      go_wp2_with fail
      go_ret
      exact ⟨rfl, G.out⟩
end Go.Proofs.Qxb6603779a
