/-
  Walks of the two size guards zzBytes_* (6, 11).
-/
import Derived.Test.Qxb6603782aPlain
namespace Go.Proofs.Qxb6603782a
open Go.RowKit

/-- The guard: a bool; where it is true nothing is longer than 2 to the 20. -/
def BytesPost (n : Nat) (M : Nat → MsgC) (E : Nat → Nat → EntC) (w : World) (e : Ending) (w' : World) : Prop := ∃ t, e = .returned (.bool t) ∧ (t = true → n ≤ 1048576 ∧ Bound n M E) ∧ w' = w

theorem bytes_no {n : Nat} {M : Nat → MsgC} {E : Nat → Nat → EntC} {w : World} : BytesPost n M E w (.returned (.bool false)) w := ⟨false, rfl, fun h => absurd h (by decide), rfl⟩

theorem Bound.step {k : Nat} {M : Nat → MsgC} {E : Nat → Nat → EntC} (h : Bound k M E) (h1 : (M k).en ≤ 1048576) (h2 : ∀ j, j < (M k).en → (E k j).xl ≤ 1048576) : Bound (k + 1) M E := by
  intro i hi
  by_cases e : i = k
  · subst e; exact ⟨h1, h2⟩
  · exact h i (by omega)

theorem xs_step {k j : Nat} {E : Nat → Nat → EntC} (h : ∀ i, i < j → (E k i).xl ≤ 1048576) (h1 : (E k j).xl ≤ 1048576) : ∀ i, i < j + 1 → (E k i).xl ≤ 1048576 := by
  intro i hi
  by_cases e : i = j
  · subst e; exact h1
  · exact h i (by omega)

set_option maxHeartbeats 400000 in
theorem zb6_big (a : Option Addr) (n c : Nat) (M : Nat → MsgC) (E : Nat → Nat → EntC) (w : World) (hn : 1048576 < n) :
    Calls Try.prog 6 #[.slice a n c] w fun e w' => BytesPost n M E w e w' := by
  go_enter Try.func6, Try.ntmps6
  go_wp2
  go_ret
  exact bytes_no

set_option maxHeartbeats 400000 in
theorem zb6_none (a : Option Addr) (c : Nat) (M : Nat → MsgC) (E : Nat → Nat → EntC) (w : World) :
    Calls Try.prog 6 #[.slice a 0 c] w fun e w' => BytesPost 0 M E w e w' := by
  go_enter Try.func6, Try.ntmps6
  go_wp2
  refine wp_loop_rounds 1 ?_
  rw [rounds_succ]
  go_wp2
  go_ret
  exact ⟨true, rfl, fun _ => ⟨Nat.zero_le _, fun i hi => absurd hi (Nat.not_lt_zero _)⟩, rfl⟩

set_option maxRecDepth 20000 in
set_option maxHeartbeats 4000000 in
theorem zb6_some (b o n c : Nat) (M : Nat → MsgC) (E : Nat → Nat → EntC) (w : World) (hn : n ≤ 1048576) (hr : ∀ i, i < n → msgAt w b (o + i * 15) (M i) ∧ entsAt w (M i).ea (M i).en (E i)) :
    Calls Try.prog 6 #[.slice (some ⟨b, o, none⟩) n c] w fun e w' => BytesPost n M E w e w' := by
  go_enter Try.func6, Try.ntmps6
  go_wp2
  go_loop [3, 4] (fun s i => ∃ k q : Nat, k ≤ n ∧ i = .int .i64 k ∧ s = .int .i64 q ∧ q ≤ 1048576 ∧ Bound k M E) (fun _ i => n - (intOf i).toNat)
  case atStart => exact ⟨0, n, Nat.zero_le _, rfl, rfl, hn, fun i hi => absurd hi (Nat.not_lt_zero _)⟩
  case round =>
    obtain ⟨k, q, hk, rfl, rfl, hq, hBk⟩ := hrel
    have HBk : Hid (Bound k M E) := hBk
    clear hBk
    by_cases hlt : k < n
    · obtain ⟨h0, h1, h2, _, _, _, h6, _, _, _, _, _, _, h13, _⟩ := (hr k hlt).1
      have HE : Hid (entsAt w (M k).ea (M k).en (E k)) := (hr k hlt).2
      clear hr
      by_cases hfit : q + (M k).s0.size + (M k).s1.size + (M k).s2.size + (M k).en ≤ 1048576
      · rcases HE.out with he0 | ⟨eb, eo, hea, hee⟩
        · have H0 : Hid ((M k).en = 0) := he0
          clear HE he0
          go_wp2
          go_loop [3, 5] (fun s i => ∃ j r : Nat, j ≤ (M k).en ∧ i = .int .i64 j ∧ s = .int .i64 r ∧ r ≤ 1048576 ∧ ∀ i, i < j → (E k i).xl ≤ 1048576) (fun _ i => (M k).en - (intOf i).toNat)
          case atStart => exact ⟨0, q + (M k).s0.size + (M k).s1.size + (M k).s2.size + (M k).en, Nat.zero_le _, rfl, by go_num, hfit, fun i hi => absurd hi (Nat.not_lt_zero _)⟩
          case round =>
            obtain ⟨j, r, hj, rfl, rfl, hr20, hxs⟩ := hrel
            have HX : Hid (∀ i, i < j → (E k i).xl ≤ 1048576) := hxs
            clear hxs
            by_cases hjl : j < (M k).en
            · exact absurd hjl (by have := H0.out; omega)
            · obtain rfl : j = (M k).en := by omega
              have HBN : Hid (Bound (k + 1) M E) := HBk.out.step (by omega) HX.out
              by_cases hd : r + (M k).dn ≤ 1048576
              · go_wp2
                go_round
                case rel => exact ⟨k + 1, r + (M k).dn, by omega, by go_num, by go_num, hd, HBN.out⟩
                case measure => simp [intOf]; omega
              · go_wp2
                all_goals
                  go_ret
                  exact bytes_no
        · have HEE : Hid (∀ j, j < (M k).en → entAt w eb (eo + j * 3) (E k j)) := hee
          clear HE hee
          go_wp2
          go_loop [3, 5] (fun s i => ∃ j r : Nat, j ≤ (M k).en ∧ i = .int .i64 j ∧ s = .int .i64 r ∧ r ≤ 1048576 ∧ ∀ i, i < j → (E k i).xl ≤ 1048576) (fun _ i => (M k).en - (intOf i).toNat)
          case atStart => exact ⟨0, q + (M k).s0.size + (M k).s1.size + (M k).s2.size + (M k).en, Nat.zero_le _, rfl, by go_num, hfit, fun i hi => absurd hi (Nat.not_lt_zero _)⟩
          case round =>
            obtain ⟨j, r, hj, rfl, rfl, hr20, hxs⟩ := hrel
            have HX : Hid (∀ i, i < j → (E k i).xl ≤ 1048576) := hxs
            clear hxs
            by_cases hjl : j < (M k).en
            · obtain ⟨_, _, hc⟩ := HEE.out j hjl
              by_cases hx : r + (E k j).xl ≤ 1048576
              · go_wp2
                go_round
                case rel => exact ⟨j + 1, r + (E k j).xl, by omega, by go_num, by go_num, hx, xs_step HX.out (by omega)⟩
                case measure => simp [intOf]; omega
              · go_wp2
                all_goals
                  go_ret
                  exact bytes_no
            · obtain rfl : j = (M k).en := by omega
              have HBN : Hid (Bound (k + 1) M E) := HBk.out.step (by omega) HX.out
              by_cases hd : r + (M k).dn ≤ 1048576
              · go_wp2
                go_round
                case rel => exact ⟨k + 1, r + (M k).dn, by omega, by go_num, by go_num, hd, HBN.out⟩
                case measure => simp [intOf]; omega
              · go_wp2
                all_goals
                  go_ret
                  exact bytes_no
      · go_wp2
        all_goals
          go_ret
          exact bytes_no
    · obtain rfl : k = n := by omega
      go_wp2
      go_ret
      exact ⟨true, rfl, fun _ => ⟨hn, HBk.out⟩, rfl⟩

theorem zb6_any (a : Option Addr) (n c : Nat) (M : Nat → MsgC) (E : Nat → Nat → EntC) (w : World) (hr : rowAt w a n M E) :
    Calls Try.prog 6 #[.slice a n c] w fun e w' => BytesPost n M E w e w' := by
  by_cases h1 : 1048576 < n
  · exact zb6_big a n c M E w h1
  · by_cases h0 : n = 0
    · subst h0
      exact zb6_none a c M E w
    · obtain ⟨b, o, rfl, h2⟩ := hr.resolve_left h0
      exact zb6_some b o n c M E w (by omega) h2
end Go.Proofs.Qxb6603782a
