/-
  Walks of zzBytes_* (13, 20, 21) and answerInputFits (14).
-/
import Derived.Test.Qxb6603779aProg
import Derived.WalkKit
import Derived.WalkLawsBesides
namespace Go.Proofs.Qxb6603779a
open Go.RowKit

/-- It answers a bool; where that is true every data length is at most 2 to the 20. -/
def SaysFits (n : Nat) (L : Nat → Nat) (w : World) (e : Ending) (w' : World) : Prop := ∃ t, e = .returned (.bool t) ∧ (t = true → ∀ i, i < n → L i ≤ 1048576) ∧ w' = w
/-- It answers a bool and leaves the world. -/
def SaysBool (w : World) (e : Ending) (w' : World) : Prop := ∃ t, e = .returned (.bool t) ∧ w' = w

theorem all_succ {L : Nat → Nat} {k B : Nat} (h : ∀ j, j < k → L j ≤ B) (hk : L k ≤ B) : ∀ j, j < k + 1 → L j ≤ B := fun j hj => by
  by_cases e : j = k
  · subst e; exact hk
  · exact h j (by omega)

set_option maxHeartbeats 400000 in
theorem zb13_big (a : Option Addr) (n c : Nat) (a0 a1 a2 a3 a4 : Int) (w : World) (hn : 1048576 < n) (hm : n ≤ 9223372036854775807) :
    Calls Try.prog 13 #[.int .u8 a0, .int .u32 a1, .int .u32 a2, .int .u32 a3, .int .u32 a4, .slice a n c] w fun e w' => e = .returned (.bool false) ∧ w' = w := by
  go_enter Try.func13, Try.ntmps13
  go_wp2
  go_ret
  exact ⟨rfl, rfl⟩

set_option maxHeartbeats 400000 in
theorem zb13_none (a : Option Addr) (c : Nat) (a0 a1 a2 a3 a4 : Int) (w : World) :
    Calls Try.prog 13 #[.int .u8 a0, .int .u32 a1, .int .u32 a2, .int .u32 a3, .int .u32 a4, .slice a 0 c] w fun e w' => e = .returned (.bool true) ∧ w' = w := by
  go_enter Try.func13, Try.ntmps13
  go_wp2
  refine wp_loop_rounds 1 ?_
  rw [rounds_succ]
  go_wp2
  go_ret
  exact ⟨rfl, rfl⟩

set_option maxHeartbeats 400000 in
theorem zb13_fits (b o n c : Nat) (A : Nat → Option Addr) (L K : Nat → Nat) (a0 a1 a2 a3 a4 : Int) (w : World) (hn : n ≤ 1048576) (hL : ∀ i, i < n → L i ≤ 9223372036854775807)
    (hc : ∀ i, i < n → w.cell? ⟨b, o + i * 4 + 3, none⟩ = some (.slice (A i) (L i) (K i))) :
    Calls Try.prog 13 #[.int .u8 a0, .int .u32 a1, .int .u32 a2, .int .u32 a3, .int .u32 a4, .slice (some ⟨b, o, none⟩) n c] w fun e w' => SaysFits n L w e w' := by
  go_enter Try.func13, Try.ntmps13
  go_wp2
  go_loop [13, 14] (fun s i => ∃ k q : Nat, k ≤ n ∧ i = .int .i64 k ∧ s = .int .i64 q ∧ q ≤ 1048576 ∧ ∀ j, j < k → L j ≤ 1048576) (fun _ i => n - (intOf i).toNat)
  case atStart => exact ⟨0, n, Nat.zero_le _, rfl, rfl, hn, fun j hj => absurd hj (Nat.not_lt_zero _)⟩
  case round =>
    obtain ⟨k, q, hk, rfl, rfl, hq, hall⟩ := hrel
    have HA : Hid (∀ j, j < k → L j ≤ 1048576) := hall
    clear hall
    by_cases hlt : k < n
    · have g := hc k hlt
      have gl := hL k hlt
      clear hc hL
      by_cases h1 : L k ≤ 1048576
      · by_cases h2 : q + L k ≤ 1048576
        · go_wp2
          go_round
          case rel => exact ⟨k + 1, q + L k, by omega, by go_num, by go_num, h2, all_succ HA.out h1⟩
          case measure => simp [intOf]; omega
        · go_wp2
          go_ret
          exact ⟨false, rfl, (fun h => absurd h (by decide)), rfl⟩
      · go_wp2
        go_ret
        exact ⟨false, rfl, (fun h => absurd h (by decide)), rfl⟩
    · go_wp2
      go_ret
      exact ⟨true, rfl, fun _ i hi => HA.out i (by omega), rfl⟩

set_option maxHeartbeats 400000 in
theorem zb20_big (a : Option Addr) (n c : Nat) (a0 a1 a2 a3 a4 : Int) (w : World) (hn : 1048576 < n) (hm : n ≤ 9223372036854775807) :
    Calls Try.prog 20 #[.int .u8 a0, .int .u32 a1, .int .u32 a2, .int .u32 a3, .int .u32 a4, .slice a n c] w fun e w' => e = .returned (.bool false) ∧ w' = w := by
  go_enter Try.func20, Try.ntmps20
  go_wp2
  go_ret
  exact ⟨rfl, rfl⟩

set_option maxHeartbeats 400000 in
theorem zb20_none (a : Option Addr) (c : Nat) (a0 a1 a2 a3 a4 : Int) (w : World) :
    Calls Try.prog 20 #[.int .u8 a0, .int .u32 a1, .int .u32 a2, .int .u32 a3, .int .u32 a4, .slice a 0 c] w fun e w' => e = .returned (.bool true) ∧ w' = w := by
  go_enter Try.func20, Try.ntmps20
  go_wp2
  refine wp_loop_rounds 1 ?_
  rw [rounds_succ]
  go_wp2
  go_ret
  exact ⟨rfl, rfl⟩

set_option maxHeartbeats 400000 in
theorem zb20_fits (b o n c : Nat) (A : Nat → Option Addr) (L K : Nat → Nat) (a0 a1 a2 a3 a4 : Int) (w : World) (hn : n ≤ 1048576) (hL : ∀ i, i < n → L i ≤ 9223372036854775807)
    (hc : ∀ i, i < n → w.cell? ⟨b, o + i * 4 + 3, none⟩ = some (.slice (A i) (L i) (K i))) :
    Calls Try.prog 20 #[.int .u8 a0, .int .u32 a1, .int .u32 a2, .int .u32 a3, .int .u32 a4, .slice (some ⟨b, o, none⟩) n c] w fun e w' => SaysFits n L w e w' := by
  go_enter Try.func20, Try.ntmps20
  go_wp2
  go_loop [13, 14] (fun s i => ∃ k q : Nat, k ≤ n ∧ i = .int .i64 k ∧ s = .int .i64 q ∧ q ≤ 1048576 ∧ ∀ j, j < k → L j ≤ 1048576) (fun _ i => n - (intOf i).toNat)
  case atStart => exact ⟨0, n, Nat.zero_le _, rfl, rfl, hn, fun j hj => absurd hj (Nat.not_lt_zero _)⟩
  case round =>
    obtain ⟨k, q, hk, rfl, rfl, hq, hall⟩ := hrel
    have HA : Hid (∀ j, j < k → L j ≤ 1048576) := hall
    clear hall
    by_cases hlt : k < n
    · have g := hc k hlt
      have gl := hL k hlt
      clear hc hL
      by_cases h1 : L k ≤ 1048576
      · by_cases h2 : q + L k ≤ 1048576
        · go_wp2
          go_round
          case rel => exact ⟨k + 1, q + L k, by omega, by go_num, by go_num, h2, all_succ HA.out h1⟩
          case measure => simp [intOf]; omega
        · go_wp2
          go_ret
          exact ⟨false, rfl, (fun h => absurd h (by decide)), rfl⟩
      · go_wp2
        go_ret
        exact ⟨false, rfl, (fun h => absurd h (by decide)), rfl⟩
    · go_wp2
      go_ret
      exact ⟨true, rfl, fun _ i hi => HA.out i (by omega), rfl⟩

set_option maxHeartbeats 400000 in
theorem zb21_big (a : Option Addr) (n c : Nat) (a0 a1 a2 a3 a4 : Int) (w : World) (hn : 1048576 < n) (hm : n ≤ 9223372036854775807) :
    Calls Try.prog 21 #[.int .u8 a0, .int .u32 a1, .int .u32 a2, .int .u32 a3, .int .u32 a4, .slice a n c] w fun e w' => e = .returned (.bool false) ∧ w' = w := by
  go_enter Try.func21, Try.ntmps21
  go_wp2
  go_ret
  exact ⟨rfl, rfl⟩

set_option maxHeartbeats 400000 in
theorem zb21_none (a : Option Addr) (c : Nat) (a0 a1 a2 a3 a4 : Int) (w : World) :
    Calls Try.prog 21 #[.int .u8 a0, .int .u32 a1, .int .u32 a2, .int .u32 a3, .int .u32 a4, .slice a 0 c] w fun e w' => e = .returned (.bool true) ∧ w' = w := by
  go_enter Try.func21, Try.ntmps21
  go_wp2
  refine wp_loop_rounds 1 ?_
  rw [rounds_succ]
  go_wp2
  go_ret
  exact ⟨rfl, rfl⟩

set_option maxHeartbeats 400000 in
theorem zb21_fits (b o n c : Nat) (A : Nat → Option Addr) (L K : Nat → Nat) (a0 a1 a2 a3 a4 : Int) (w : World) (hn : n ≤ 1048576) (hL : ∀ i, i < n → L i ≤ 9223372036854775807)
    (hc : ∀ i, i < n → w.cell? ⟨b, o + i * 4 + 3, none⟩ = some (.slice (A i) (L i) (K i))) :
    Calls Try.prog 21 #[.int .u8 a0, .int .u32 a1, .int .u32 a2, .int .u32 a3, .int .u32 a4, .slice (some ⟨b, o, none⟩) n c] w fun e w' => SaysFits n L w e w' := by
  go_enter Try.func21, Try.ntmps21
  go_wp2
  go_loop [13, 14] (fun s i => ∃ k q : Nat, k ≤ n ∧ i = .int .i64 k ∧ s = .int .i64 q ∧ q ≤ 1048576 ∧ ∀ j, j < k → L j ≤ 1048576) (fun _ i => n - (intOf i).toNat)
  case atStart => exact ⟨0, n, Nat.zero_le _, rfl, rfl, hn, fun j hj => absurd hj (Nat.not_lt_zero _)⟩
  case round =>
    obtain ⟨k, q, hk, rfl, rfl, hq, hall⟩ := hrel
    have HA : Hid (∀ j, j < k → L j ≤ 1048576) := hall
    clear hall
    by_cases hlt : k < n
    · have g := hc k hlt
      have gl := hL k hlt
      clear hc hL
      by_cases h1 : L k ≤ 1048576
      · by_cases h2 : q + L k ≤ 1048576
        · go_wp2
          go_round
          case rel => exact ⟨k + 1, q + L k, by omega, by go_num, by go_num, h2, all_succ HA.out h1⟩
          case measure => simp [intOf]; omega
        · go_wp2
          go_ret
          exact ⟨false, rfl, (fun h => absurd h (by decide)), rfl⟩
      · go_wp2
        go_ret
        exact ⟨false, rfl, (fun h => absurd h (by decide)), rfl⟩
    · go_wp2
      go_ret
      exact ⟨true, rfl, fun _ i hi => HA.out i (by omega), rfl⟩

set_option maxHeartbeats 400000 in
theorem fits_big (a : Option Addr) (n c : Nat) (w : World) (hn : 65536 < n) (hm : n ≤ 9223372036854775807) :
    Calls Try.prog 14 #[.slice a n c] w fun e w' => e = .returned (.bool false) ∧ w' = w := by
  go_enter Try.func14, Try.ntmps14
  go_wp2
  go_ret
  exact ⟨rfl, rfl⟩

set_option maxHeartbeats 400000 in
theorem fits_none (a : Option Addr) (c : Nat) (w : World) :
    Calls Try.prog 14 #[.slice a 0 c] w fun e w' => e = .returned (.bool true) ∧ w' = w := by
  go_enter Try.func14, Try.ntmps14
  go_wp2
  refine wp_loop_rounds 1 ?_
  rw [rounds_succ]
  go_wp2
  go_ret
  exact ⟨rfl, rfl⟩

set_option maxHeartbeats 400000 in
theorem fits_wide (a : Option Addr) (n c : Nat) (w : World) (hn : n ≤ 65536) (hm : 1048576 < n * 40) :
    Calls Try.prog 14 #[.slice a n c] w fun e w' => e = .returned (.bool false) ∧ w' = w := by
  go_enter Try.func14, Try.ntmps14
  go_wp2
  go_ret
  exact ⟨rfl, rfl⟩

set_option maxHeartbeats 400000 in
theorem fits_some (b o n c : Nat) (A : Nat → Option Addr) (L K : Nat → Nat) (w : World) (hn : n ≤ 65536) (hm : n * 40 ≤ 1048576) (hL : ∀ i, i < n → L i ≤ 1048576)
    (hc : ∀ i, i < n → w.cell? ⟨b, o + i * 4 + 3, none⟩ = some (.slice (A i) (L i) (K i))) :
    Calls Try.prog 14 #[.slice (some ⟨b, o, none⟩) n c] w fun e w' => SaysBool w e w' := by
  go_enter Try.func14, Try.ntmps14
  go_wp2
  go_loop [3, 4] (fun s i => ∃ k q : Nat, k ≤ n ∧ i = .int .i64 k ∧ s = .int .i64 q ∧ q ≤ 1048576) (fun _ i => n - (intOf i).toNat)
  case atStart => exact ⟨0, n * 40, Nat.zero_le _, rfl, by go_num, hm⟩
  case round =>
    obtain ⟨k, q, hk, rfl, rfl, hq⟩ := hrel
    by_cases hlt : k < n
    · have g := hc k hlt
      have gl := hL k hlt
      clear hc hL
      by_cases h2 : q + L k ≤ 1048576
      · go_wp2
        go_round
        case rel => exact ⟨k + 1, q + L k, by omega, by go_num, by go_num, h2⟩
        case measure => simp [intOf]; omega
      · go_wp2
        go_ret
        exact ⟨false, rfl, rfl⟩
    · go_wp2
      go_ret
      exact ⟨true, rfl, rfl⟩
end Go.Proofs.Qxb6603779a
