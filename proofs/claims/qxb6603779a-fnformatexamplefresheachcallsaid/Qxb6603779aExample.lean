/-
  Walks of Format.size (22), ZZSize (11), Format.Example (8) and exampleTable (9).
-/
import Derived.Test.Qxb6603779aProg
import Derived.WalkKit
import Derived.WalkLawsBesides
import Derived.Deep.OwnRows
namespace Go.Proofs.Qxb6603779a
open Go.RowKit

/-- The documented shortest value of format f. -/
def exBytes (f : Int) : List Int :=
  if f = 2 then [0] else if f = 3 then [0, 1, 0, 0, 0, 0] else if f = 4 ∨ f = 5 ∨ f = 6 then [0, 0, 0, 0] else if f = 7 then [0, 0, 0, 0, 0, 0, 0, 0] else []

/-- The fixed width of format f, or 0. -/
def szOf (f : Int) : Nat := if f = 4 ∨ f = 5 ∨ f = 6 then 4 else if f = 7 then 8 else 0

theorem six_ways (f : Int) : f = 2 ∨ f = 3 ∨ f = 4 ∨ f = 5 ∨ f = 6 ∨ f = 7 ∨ ((f == 2) = false ∧ (f == 3) = false ∧ (f == 4) = false ∧ (f == 5) = false ∧ (f == 6) = false ∧ (f == 7) = false) := by
  simp only [beq_eq_false_iff_ne, ne_eq]
  omega

theorem ex_other (f : Int) (h2 : (f == 2) = false) (h3 : (f == 3) = false) (h4 : (f == 4) = false) (h5 : (f == 5) = false) (h6 : (f == 6) = false) (h7 : (f == 7) = false) : exBytes f = [] := by
  simp only [beq_eq_false_iff_ne, ne_eq] at *
  simp [exBytes, *]

theorem sz_other (f : Int) (h4 : (f == 4) = false) (h5 : (f == 5) = false) (h6 : (f == 6) = false) (h7 : (f == 7) = false) : szOf f = 0 := by
  simp only [beq_eq_false_iff_ne, ne_eq] at *
  simp [szOf, *]

theorem size_any (f : Int) (w : World) : Calls Try.prog 22 #[.int .u8 f] w fun e w' => e = .returned (.int .i64 (szOf f)) ∧ w' = w := by
  rcases six_ways f with rfl | rfl | rfl | rfl | rfl | rfl | ⟨h2, h3, h4, h5, h6, h7⟩
  case inr.inr.inr.inr.inr.inr =>
    rw [sz_other f h4 h5 h6 h7]
    go_enter Try.func22, Try.ntmps22
    go_wp2
    go_ret
    exact ⟨rfl, rfl⟩
  all_goals
    go_enter Try.func22, Try.ntmps22
    go_wp2
    go_ret
    exact ⟨rfl, rfl⟩

theorem zzsize_any (f : Int) (w : World) : Calls Try.prog 11 #[.int .u8 f] w fun e w' => e = .returned (.int .i64 (szOf f)) ∧ w' = w := by
  go_enter Try.func11, Try.ntmps11
  go_wp2_with (go_at_call 22; refine (size_any _ _).mono ?_; rintro e w' ⟨rfl, rfl⟩)
  go_ret
  exact ⟨rfl, rfl⟩

theorem mk0 (w : World) : (Instr.makeSlice 22 (.int .i64 0) (.int .i64 0)).run Try.prog w = .ok (.slice (some ⟨w.heap.size, 0, none⟩) 0 0) (w.alloc (.cells #[] 5)) := by kernel_rfl
theorem mk1 (w : World) : (Instr.makeSlice 22 (.int .i64 1) (.int .i64 1)).run Try.prog w = .ok (.slice (some ⟨w.heap.size, 0, none⟩) 1 1) (w.alloc (.cells #[.int .u8 0] 5)) := by kernel_rfl
theorem mk4 (w : World) : (Instr.makeSlice 22 (.int .i64 4) (.int .i64 4)).run Try.prog w = .ok (.slice (some ⟨w.heap.size, 0, none⟩) 4 4) (w.alloc (.cells #[.int .u8 0, .int .u8 0, .int .u8 0, .int .u8 0] 5)) := by kernel_rfl
theorem mk8 (w : World) : (Instr.makeSlice 22 (.int .i64 8) (.int .i64 8)).run Try.prog w = .ok (.slice (some ⟨w.heap.size, 0, none⟩) 8 8) (w.alloc (.cells #[.int .u8 0, .int .u8 0, .int .u8 0, .int .u8 0, .int .u8 0, .int .u8 0, .int .u8 0, .int .u8 0] 5)) := by kernel_rfl

theorem example_any (f : Int) (w : World) : Calls Try.prog 8 #[.int .u8 f] w fun e w' => e = .returned (.slice (some ⟨w.heap.size, 0, none⟩) (exBytes f).length (exBytes f).length) ∧ w' = w.alloc (.cells ((exBytes f).map (Value.int .u8)).toArray 5) := by
  have m0 := mk0
  have m1 := mk1
  have m4 := mk4
  have m8 := mk8
  rcases six_ways f with rfl | rfl | rfl | rfl | rfl | rfl | ⟨h2, h3, h4, h5, h6, h7⟩
  case inr.inr.inr.inr.inr.inr =>
    rw [ex_other f h2 h3 h4 h5 h6 h7]
    go_enter Try.func8, Try.ntmps8
    go_wp2
    go_ret
    exact ⟨rfl, rfl⟩
  all_goals
    go_enter Try.func8, Try.ntmps8
    go_wp2
    go_ret
    exact ⟨rfl, rfl⟩

theorem table_any (f : Int) (w : World) : Calls Try.prog 9 #[.int .u8 f] w fun e w' => e = .returned (.slice (some ⟨w.heap.size, 0, none⟩) (exBytes f).length (exBytes f).length) ∧ w' = w.alloc (.cells ((exBytes f).map (Value.int .u8)).toArray 5) := by
  rcases six_ways f with rfl | rfl | rfl | rfl | rfl | rfl | ⟨h2, h3, h4, h5, h6, h7⟩
  case inr.inr.inr.inr.inr.inr =>
    rw [ex_other f h2 h3 h4 h5 h6 h7]
    go_enter Try.func9, Try.ntmps9
    go_wp2
    go_ret
    exact ⟨rfl, rfl⟩
  all_goals
    go_enter Try.func9, Try.ntmps9
    go_wp2
    go_ret
    exact ⟨rfl, rfl⟩
end Go.Proofs.Qxb6603779a
