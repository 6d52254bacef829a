/-
  The guards' contracts at a slice of AVPs that came in, in one form.
-/
import Derived.Test.Qxb6603779aGuards
import Derived.Test.Qxb6603779aClone
namespace Go.Proofs.Qxb6603779a
open Go.RowKit

/-- The first guard: a bool; where it is true, all lengths are at most 2 to the 20. -/
def GateA (n : Nat) (L : Nat → Nat) (w : World) (e : Ending) (w' : World) : Prop := ∃ t, e = .returned (.bool t) ∧ (t = true → ∀ i, i < n → L i ≤ 1048576) ∧ w' = w
/-- The second guard: a bool; where it is true there are at most 65536 AVPs. -/
def GateB (n : Nat) (w : World) (e : Ending) (w' : World) : Prop := ∃ t, e = .returned (.bool t) ∧ (t = true → n ≤ 65536) ∧ w' = w

theorem src_cells {w : World} {b o n : Nat} {R : AvpC} (h : srcAt w b o n R) : ∃ (A : Nat → Option Addr) (K : Nat → Nat), ∀ i, i < n → w.cell? ⟨b, o + i * 4 + 3, none⟩ = some (.slice (A i) (R.L i) (K i)) := by
  refine ⟨fun i => match w.cell? ⟨b, o + i * 4 + 3, none⟩ with | some (.slice a _ _) => a | _ => none, fun i => match w.cell? ⟨b, o + i * 4 + 3, none⟩ with | some (.slice _ _ c) => c | _ => 0, fun i hi => ?_⟩
  obtain ⟨a, c, _, _, _, h3, _⟩ := h i hi
  simp only [h3]

theorem gate13 (a : Option Addr) (n c : Nat) (R : AvpC) (a0 a1 a2 a3 a4 : Int) (w : World) (hn : n ≤ 9223372036854775807) (hL : ∀ i, i < n → R.L i ≤ 9223372036854775807) (h : avpsIn w a n c R) :
    Calls Try.prog 13 #[.int .u8 a0, .int .u32 a1, .int .u32 a2, .int .u32 a3, .int .u32 a4, .slice a n c] w fun e w' => GateA n R.L w e w' := by
  by_cases h1 : 1048576 < n
  · refine (zb13_big a n c a0 a1 a2 a3 a4 w h1 hn).mono ?_
    rintro e w' ⟨rfl, rfl⟩
    exact ⟨false, rfl, (fun h => absurd h (by decide)), rfl⟩
  by_cases h0 : n = 0
  · subst h0
    refine (zb13_none a c a0 a1 a2 a3 a4 w).mono ?_
    rintro e w' ⟨rfl, rfl⟩
    exact ⟨true, rfl, (fun _ i hi => absurd hi (Nat.not_lt_zero _)), rfl⟩
  · rcases h with ⟨_, h, _⟩ | ⟨x, rfl, h⟩
    · exact absurd h h0
    obtain ⟨b, o, rfl, hs⟩ := h.resolve_left h0
    obtain ⟨A, K, hc⟩ := src_cells hs
    refine (zb13_fits b o n c A R.L K a0 a1 a2 a3 a4 w (by omega) hL hc).mono ?_
    rintro e w' ⟨t, rfl, ht, rfl⟩
    exact ⟨t, rfl, ht, rfl⟩

theorem gate20 (a : Option Addr) (n c : Nat) (R : AvpC) (a0 a1 a2 a3 a4 : Int) (w : World) (hn : n ≤ 9223372036854775807) (hL : ∀ i, i < n → R.L i ≤ 9223372036854775807) (h : avpsIn w a n c R) :
    Calls Try.prog 20 #[.int .u8 a0, .int .u32 a1, .int .u32 a2, .int .u32 a3, .int .u32 a4, .slice a n c] w fun e w' => GateA n R.L w e w' := by
  by_cases h1 : 1048576 < n
  · refine (zb20_big a n c a0 a1 a2 a3 a4 w h1 hn).mono ?_
    rintro e w' ⟨rfl, rfl⟩
    exact ⟨false, rfl, (fun h => absurd h (by decide)), rfl⟩
  by_cases h0 : n = 0
  · subst h0
    refine (zb20_none a c a0 a1 a2 a3 a4 w).mono ?_
    rintro e w' ⟨rfl, rfl⟩
    exact ⟨true, rfl, (fun _ i hi => absurd hi (Nat.not_lt_zero _)), rfl⟩
  · rcases h with ⟨_, h, _⟩ | ⟨x, rfl, h⟩
    · exact absurd h h0
    obtain ⟨b, o, rfl, hs⟩ := h.resolve_left h0
    obtain ⟨A, K, hc⟩ := src_cells hs
    refine (zb20_fits b o n c A R.L K a0 a1 a2 a3 a4 w (by omega) hL hc).mono ?_
    rintro e w' ⟨t, rfl, ht, rfl⟩
    exact ⟨t, rfl, ht, rfl⟩

theorem gate21 (a : Option Addr) (n c : Nat) (R : AvpC) (a0 a1 a2 a3 a4 : Int) (w : World) (hn : n ≤ 9223372036854775807) (hL : ∀ i, i < n → R.L i ≤ 9223372036854775807) (h : avpsIn w a n c R) :
    Calls Try.prog 21 #[.int .u8 a0, .int .u32 a1, .int .u32 a2, .int .u32 a3, .int .u32 a4, .slice a n c] w fun e w' => GateA n R.L w e w' := by
  by_cases h1 : 1048576 < n
  · refine (zb21_big a n c a0 a1 a2 a3 a4 w h1 hn).mono ?_
    rintro e w' ⟨rfl, rfl⟩
    exact ⟨false, rfl, (fun h => absurd h (by decide)), rfl⟩
  by_cases h0 : n = 0
  · subst h0
    refine (zb21_none a c a0 a1 a2 a3 a4 w).mono ?_
    rintro e w' ⟨rfl, rfl⟩
    exact ⟨true, rfl, (fun _ i hi => absurd hi (Nat.not_lt_zero _)), rfl⟩
  · rcases h with ⟨_, h, _⟩ | ⟨x, rfl, h⟩
    · exact absurd h h0
    obtain ⟨b, o, rfl, hs⟩ := h.resolve_left h0
    obtain ⟨A, K, hc⟩ := src_cells hs
    refine (zb21_fits b o n c A R.L K a0 a1 a2 a3 a4 w (by omega) hL hc).mono ?_
    rintro e w' ⟨t, rfl, ht, rfl⟩
    exact ⟨t, rfl, ht, rfl⟩

theorem gate_b (a : Option Addr) (n c : Nat) (R : AvpC) (w : World) (hn : n ≤ 9223372036854775807) (hL : ∀ i, i < n → R.L i ≤ 1048576) (h : avpsIn w a n c R) :
    Calls Try.prog 14 #[.slice a n c] w fun e w' => GateB n w e w' := by
  by_cases h1 : 65536 < n
  · refine (fits_big a n c w h1 hn).mono ?_
    rintro e w' ⟨rfl, rfl⟩
    exact ⟨false, rfl, (fun h => absurd h (by decide)), rfl⟩
  by_cases h2 : 1048576 < n * 40
  · refine (fits_wide a n c w (by omega) h2).mono ?_
    rintro e w' ⟨rfl, rfl⟩
    exact ⟨false, rfl, (fun h => absurd h (by decide)), rfl⟩
  by_cases h0 : n = 0
  · subst h0
    refine (fits_none a c w).mono ?_
    rintro e w' ⟨rfl, rfl⟩
    exact ⟨true, rfl, (fun _ => by omega), rfl⟩
  · rcases h with ⟨_, h, _⟩ | ⟨x, rfl, h⟩
    · exact absurd h h0
    obtain ⟨b, o, rfl, hs⟩ := h.resolve_left h0
    obtain ⟨A, K, hc⟩ := src_cells hs
    refine (fits_some b o n c A R.L K w (by omega) (by omega) hL hc).mono ?_
    rintro e w' ⟨t, rfl, rfl⟩
    exact ⟨t, rfl, (fun _ => by omega), rfl⟩
end Go.Proofs.Qxb6603779a
