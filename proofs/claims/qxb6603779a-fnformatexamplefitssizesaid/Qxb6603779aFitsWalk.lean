/-
  The walk of FnFormatExampleFitsSize (function 4).
-/
import Derived.Test.Qxb6603779aSame
import Derived.Test.Qxb6603779aExample
namespace Go.Proofs.Qxb6603779a
open Go.RowKit

theorem sz_le (f : Int) : szOf f ≤ (exBytes f).length := by
  unfold szOf exBytes
  split
  · rename_i h
    rcases h with rfl | rfl | rfl <;> decide
  · split
    · subst f; decide
    · omega

theorem sz_pos (f : Int) (h : 0 < szOf f) : (exBytes f).length = szOf f ∧ ∀ i, i < szOf f → (exBytes f)[i]? = some 0 := by
  have hf : f = 4 ∨ f = 5 ∨ f = 6 ∨ f = 7 := by
    unfold szOf at h
    split at h
    · omega
    · split at h
      · omega
      · omega
  rcases hf with rfl | rfl | rfl | rfl
  · refine ⟨by decide, ?_⟩; show ∀ i, i < 4 → ([0, 0, 0, 0] : List Int)[i]? = some 0; decide
  · refine ⟨by decide, ?_⟩; show ∀ i, i < 4 → ([0, 0, 0, 0] : List Int)[i]? = some 0; decide
  · refine ⟨by decide, ?_⟩; show ∀ i, i < 4 → ([0, 0, 0, 0] : List Int)[i]? = some 0; decide
  · refine ⟨by decide, ?_⟩; show ∀ i, i < 8 → ([0, 0, 0, 0, 0, 0, 0, 0] : List Int)[i]? = some 0; decide

theorem sz_small (f : Int) : szOf f ≤ 8 := by
  unfold szOf
  split
  · omega
  · split <;> omega

theorem example_len (f : Int) (n : Nat) (h : (exBytes f).length = n) (w : World) : Calls Try.prog 8 #[.int .u8 f] w fun e w' => e = .returned (.slice (some ⟨w.heap.size, 0, none⟩) n n) ∧ w' = w.alloc (.cells ((exBytes f).map (Value.int .u8)).toArray 5) := by
  subst h
  exact example_any f w

theorem fits_walk (f : Int) (w : World) : Calls Try.prog 4 #[.int .u8 f] w fun e w' => e = .returned (.bool true) ∧ Grown w w' := by
  have h1 := sz_le f
  have h2 := sz_small f
  by_cases hp : 0 < szOf f
  · obtain ⟨hl, hz⟩ := sz_pos f hp
    have hz' : ∀ i, i < szOf f → (w.alloc (.cells ((exBytes f).map (Value.int .u8)).toArray 5)).cell? ⟨w.heap.size, 0 + i, none⟩ = some (.int .u8 0) := by
      intro i hi
      rw [World.cell?_alloc_at _ _ _ _ rfl]
      simp [hz i hi]
    have H1 : Hid (∀ i, i < szOf f → (w.alloc (.cells ((exBytes f).map (Value.int .u8)).toArray 5)).cell? ⟨w.heap.size, 0 + i, none⟩ = some (.int .u8 0)) := hz'
    clear hz hz'
    have HL : Hid ((exBytes f).length = szOf f) := hl
    clear hl h1
    go_enter Try.func4, Try.ntmps4
    go_wp2_with (go_at_call 11; refine (zzsize_any _ _).mono ?_; rintro e w' ⟨rfl, rfl⟩)
    refine (example_len f _ HL.out _).mono ?_
    rintro e w' ⟨rfl, rfl⟩
    go_wp2_with (go_at_call 12; refine (zero_cells _ _ _ _ _ (by omega) H1.out).mono ?_; rintro e w' ⟨rfl, rfl⟩)
    go_ret
    exact ⟨rfl, (Grown.refl _).alloc _ _⟩
  · go_enter Try.func4, Try.ntmps4
    go_wp2_with (first | (go_at_call 11; refine (zzsize_any _ _).mono ?_; rintro e w' ⟨rfl, rfl⟩) | (go_at_call 8; refine (example_any _ _).mono ?_; rintro e w' ⟨rfl, rfl⟩))
    go_ret
    exact ⟨rfl, (Grown.refl _).alloc _ _⟩
end Go.Proofs.Qxb6603779a
