/-
  Walks of zzCopyBytes (function 14).
-/
import Derived.Test.Qxb6603782aProg
import Derived.WalkKit
import Derived.WalkLawsBesides
import Derived.Deep.OwnRows
namespace Go.Proofs.Qxb6603782a
open Go.RowKit

theorem Try.info5 : (Try.prog.info? 5).map (fun i => (i.zero, i.size, i.bytes)) = some (some (.int .u8 0), 1, 1) := by kernel_rfl

theorem eqnil31 (a : Option Addr) (n c : Nat) (w : World) : (binOp .eql 31 (.slice a n c) (.slice none 0 0)).run Try.prog w = .ok (.bool a.isNone) w := Lib.run_eql_slice_nil w 31 5 a n c 0 0 Try.underlying31

theorem copy_nil (w : World) : Calls Try.prog 14 #[.slice none 0 0] w fun e w' => e = .returned (.slice none 0 0) ∧ w' = w := by
  have hnil := eqnil31
  go_enter Try.func14, Try.ntmps14
  go_wp2
  go_ret
  exact ⟨rfl, rfl⟩

/-- What zzCopyBytes leaves: a row of its own in the one new block. -/
def Copied (w w' : World) (n : Nat) (z : Nat → Int) : Prop :=
  w'.rowIs w.heap.size 5 n (fun i => .int .u8 (z i)) ∧ Below w.heap.size w w' ∧ w'.heap.size = w.heap.size + 1

theorem copied_start (w : World) (n : Nat) : (w.alloc (.cells (madeCells #[.int .u8 0] n) 5)).rowIs w.heap.size 5 n (fun _ => .int .u8 0) ∧ Below w.heap.size w (w.alloc (.cells (madeCells #[.int .u8 0] n) 5)) ∧ (w.alloc (.cells (madeCells #[.int .u8 0] n) 5)).heap.size = w.heap.size + 1 :=
  ⟨World.rowIs_made _ _ _ _, (Below.refl _ _).alloc (Nat.le_refl _) _, by simp⟩

theorem add_plain' (b o i : Nat) : (⟨b, o, none⟩ : Addr).add i = ⟨b, o + i, none⟩ := by unfold Addr.add; split <;> simp_all

set_option maxHeartbeats 400000 in
theorem copy_plain (b o n c : Nat) (z : Nat → Int) (w : World) (hn : n ≤ 1048576) (hb : b < w.heap.size) (hc : ∀ i, i < n → w.cell? ⟨b, o + i, none⟩ = some (.int .u8 (z i))) :
    Calls Try.prog 14 #[.slice (some ⟨b, o, none⟩) n c] w fun e w' => e = .returned (.slice (some ⟨w.heap.size, 0, none⟩) n n) ∧ Copied w w' n z := by
  have hmk := run_make_row' (P := Try.prog) 31 5 (.int .u8 0) 1 Try.underlying31 Try.info5 rfl .i64 .i64 n (by omega) (by omega)
  have hnil := eqnil31
  go_enter Try.func14, Try.ntmps14
  go_wp2
  obtain ⟨q1, q2, q3⟩ := copied_start w n
  go_loopw [4] (fun i wr => ∃ k : Nat, k ≤ n ∧ i = .int .i64 k ∧ (wr.rowIs w.heap.size 5 n (fun j => if j < k then .int .u8 (z j) else .int .u8 0) ∧ Below w.heap.size w wr ∧ wr.heap.size = w.heap.size + 1))
    (fun i _ => n - (intOf i).toNat)
  case atStart => exact ⟨0, Nat.zero_le _, rfl, q1.congr (fun i _ => by simp), q2, q3⟩
  case round =>
    obtain ⟨k, hk, rfl, r1, r2, r3⟩ := hrel
    clear q1 q2 q3 hmk hnil
    by_cases hlt : k < n
    · have g1 : wr.cell? ⟨b, o + k, none⟩ = some (.int .u8 (z k)) := (r2.cell (p := ⟨b, o + k, none⟩) hb).trans (hc k hlt)
      have g2 := r1.cell hlt
      have g3 := r1.frozen k
      have R1 := r1.set k (.int .u8 (z k))
      have RR : Hid ((wr.setCell ⟨w.heap.size, k, none⟩ (.int .u8 (z k))).rowIs w.heap.size 5 n (fun j => if j < k + 1 then .int .u8 (z j) else .int .u8 0) ∧ Below w.heap.size w (wr.setCell ⟨w.heap.size, k, none⟩ (.int .u8 (z k))) ∧ (wr.setCell ⟨w.heap.size, k, none⟩ (.int .u8 (z k))).heap.size = w.heap.size + 1) := by
        refine ⟨R1.congr fun j _ => ?_, r2.setCell (Nat.le_refl _) _, by simpa using r3⟩
        by_cases hj : j = k
        · subst hj; simp
        · have : (j < k + 1) = (j < k) := by rw [eq_iff_iff]; omega
          simp [hj, this]
      clear R1 r1 r2 r3 hc
      go_wp2
      go_roundw
      case rel => exact ⟨k + 1, by omega, by go_num, RR.out⟩
      case measure => simp [intOf]; omega
    · have : k = n := by omega
      subst this
      go_wp2
      go_ret
      exact ⟨rfl, r1.congr (fun i hi => by simp [hi]), r2, r3⟩

theorem mkb0 (w : World) : (Instr.makeSlice 31 (.int .i64 0) (.int .i64 0)).run Try.prog w = .ok (.slice (some ⟨w.heap.size, 0, none⟩) 0 0) (w.alloc (.cells #[] 5)) := by kernel_rfl

set_option maxHeartbeats 400000 in
theorem copy_empty (x : Addr) (c : Nat) (z : Nat → Int) (w : World) :
    Calls Try.prog 14 #[.slice (some x) 0 c] w fun e w' => e = .returned (.slice (some ⟨w.heap.size, 0, none⟩) 0 0) ∧ Copied w w' 0 z := by
  have hmk := mkb0
  have hnil := eqnil31
  go_enter Try.func14, Try.ntmps14
  go_wp2
  refine wp_loop_rounds 1 ?_
  rw [rounds_succ]
  go_wp2
  go_ret
  exact ⟨rfl, World.rowIs_alloc w #[] 5 _ (fun i hi => absurd hi (Nat.not_lt_zero _)), (Below.refl _ _).alloc (Nat.le_refl _) _, by simp⟩

theorem copy_some (x : Addr) (n c : Nat) (z : Nat → Int) (w : World) (hn : n ≤ 1048576) (hc : ∀ i, i < n → w.cell? (x.add i) = some (.int .u8 (z i))) :
    Calls Try.prog 14 #[.slice (some x) n c] w fun e w' => e = .returned (.slice (some ⟨w.heap.size, 0, none⟩) n n) ∧ Copied w w' n z := by
  by_cases h0 : n = 0
  · subst h0
    exact copy_empty x c z w
  · have h1 := hc 0 (by omega)
    have hb := World.block_lt_of_cell? _ _ h1
    obtain ⟨b, o, s⟩ := x
    have hs : s = none := by simpa [Addr.add] using World.cell?_spot h1
    subst hs
    exact copy_plain b o n c z w hn (by simpa [Addr.add] using hb) (fun i hi => by rw [← add_plain']; exact hc i hi)
end Go.Proofs.Qxb6603782a
