/-
  The walks of postLength (17) and ZZPostLength (8).
-/
import Derived.Test.Qxb6603782aTop
namespace Go.Proofs.Qxb6603782a
open Go.RowKit

/-- What postLength gives. -/
def PostPost (n : Nat) (P : Nat → Nat) (w : World) (e : Ending) (w' : World) : Prop := ∃ r : Nat, e = .returned (.int .i64 r) ∧ MaxRun n P r ∧ Below w.heap.size w w'

set_option maxHeartbeats 2000000 in
theorem post_some (b o n c : Nat) (M : Nat → MsgC) (E : Nat → Nat → EntC) (w : World) (hn : n ≤ 1048576) (hB : Bound n M E) (hr : ∀ i, i < n → msgAt w b (o + i * 15) (M i) ∧ entsAt w (M i).ea (M i).en (E i)) :
    Calls Try.prog 17 #[.slice (some ⟨b, o, none⟩) n c] w fun e w' => PostPost n (PTo M E) w e w' := by
  go_enter Try.func17, Try.ntmps17
  go_wp2
  go_loopw [3, 11] (fun s i wr => ∃ k : Nat, k ≤ n ∧ i = .int .i64 k ∧ s = .int .i64 (PTo M E k) ∧ (1 < k → PTo M E k ≤ 131072) ∧ Below w.heap.size w wr) (fun _ i _ => n - (intOf i).toNat)
  case atStart => exact ⟨0, Nat.zero_le _, rfl, rfl, fun h => absurd h (by omega), Below.refl _ _⟩
  case round =>
    obtain ⟨k, hk, rfl, rfl, hrun, hb⟩ := hrel
    by_cases hlt : k < n
    · have hp := PTo_le hB k hk
      have hz := sz_le hB hlt
      have hen := (hB k hlt).1
      have HX : Hid (∀ j, j < (M k).en → (E k j).xl ≤ 1048576) := (hB k hlt).2
      have HS : Hid (PTo M E (k + 1) = PTo M E k + szTo (E k) (M k).en) := rfl
      have HR : Hid (1 < k → PTo M E k ≤ 131072) := hrun
      obtain ⟨h0, h1, h2, h3, h4, h5, h6, h7, h8, h9, h10, h11, h12, h13, h14⟩ := (hr k hlt).1.below hb
      have HE : Hid (entsAt w (M k).ea (M k).en (E k)) := (hr k hlt).2
      have HW : Hid (Below w.heap.size w wr) := hb
      clear hr hB hb hrun
      rcases HE.out with he0 | ⟨eb, eo, hea, he⟩
      · have H0 : Hid ((M k).en = 0) := he0
        clear HE he0
        go_wp2
        go_loopw [6, 19] (fun s i wr => ∃ j : Nat, j ≤ (M k).en ∧ i = .int .i64 j ∧ s = .int .i64 (szTo (E k) j) ∧ Below w.heap.size w wr) (fun _ i _ => (M k).en - (intOf i).toNat)
        case atStart => exact ⟨0, Nat.zero_le _, rfl, rfl, HW.out.alloc HW.out.size _⟩
        case round =>
          obtain ⟨j, hj, rfl, rfl, hbj⟩ := hrel
          have hsj := szTo_le (E k) j (fun i hi => HX.out i (by omega))
          by_cases hjl : j < (M k).en
          · exact absurd hjl (by have := H0.out; omega)
          · obtain rfl : j = (M k).en := by omega
            have HJ : Hid (Below w.heap.size w wr) := hbj
            clear hbj HW
            by_cases hk0 : 0 < k
            · by_cases hbig : 131072 < PTo M E k + szTo (E k) (M k).en
              · have HN : Hid (MaxRun n (PTo M E) k ∧ Below w.heap.size w wr) := ⟨⟨by omega, fun _ => hk0, HR.out, fun _ => by rw [HS.out]; exact hbig⟩, HJ.out⟩
                go_wp2
                go_ret
                exact ⟨k, rfl, HN.out.1, HN.out.2⟩
              · go_wp2
                go_roundw
                case rel => exact ⟨k + 1, by omega, by go_num, by rw [HS.out]; go_num, fun _ => by rw [HS.out]; omega, HJ.out⟩
                case measure => simp [intOf]; omega
            · go_wp2
              go_roundw
              case rel => exact ⟨k + 1, by omega, by go_num, by rw [HS.out]; go_num, fun h => by omega, HJ.out⟩
              case measure => simp [intOf]; omega
      · have HE2 : Hid (∀ j, j < (M k).en → entAt w eb (eo + j * 3) (E k j)) := he
        clear HE he
        go_wp2
        go_loopw [6, 19] (fun s i wr => ∃ j : Nat, j ≤ (M k).en ∧ i = .int .i64 j ∧ s = .int .i64 (szTo (E k) j) ∧ Below w.heap.size w wr) (fun _ i _ => (M k).en - (intOf i).toNat)
        case atStart => exact ⟨0, Nat.zero_le _, rfl, rfl, HW.out.alloc HW.out.size _⟩
        case round =>
          obtain ⟨j, hj, rfl, rfl, hbj⟩ := hrel
          have hsj := szTo_le (E k) j (fun i hi => HX.out i (by omega))
          by_cases hjl : j < (M k).en
          · obtain ⟨g0, g1, g2⟩ := (HE2.out j hjl).below hbj
            have hxl := HX.out j hjl
            have HJ : Hid (Below w.heap.size w wr) := hbj
            have HSJ : Hid (szTo (E k) (j + 1) = szTo (E k) j + (E k j).xl) := rfl
            clear hbj HW
            go_wp2
            go_roundw
            case rel => exact ⟨j + 1, by omega, by go_num, by rw [HSJ.out]; go_num, HJ.out.alloc HJ.out.size _⟩
            case measure => simp [intOf]; omega
          · obtain rfl : j = (M k).en := by omega
            have HJ : Hid (Below w.heap.size w wr) := hbj
            clear hbj HW
            by_cases hk0 : 0 < k
            · by_cases hbig : 131072 < PTo M E k + szTo (E k) (M k).en
              · have HN : Hid (MaxRun n (PTo M E) k ∧ Below w.heap.size w wr) := ⟨⟨by omega, fun _ => hk0, HR.out, fun _ => by rw [HS.out]; exact hbig⟩, HJ.out⟩
                go_wp2
                go_ret
                exact ⟨k, rfl, HN.out.1, HN.out.2⟩
              · go_wp2
                go_roundw
                case rel => exact ⟨k + 1, by omega, by go_num, by rw [HS.out]; go_num, fun _ => by rw [HS.out]; omega, HJ.out⟩
                case measure => simp [intOf]; omega
            · go_wp2
              go_roundw
              case rel => exact ⟨k + 1, by omega, by go_num, by rw [HS.out]; go_num, fun h => by omega, HJ.out⟩
              case measure => simp [intOf]; omega
    · obtain rfl : k = n := by omega
      have HN : Hid (MaxRun k (PTo M E) k ∧ Below w.heap.size w wr) := ⟨⟨Nat.le_refl _, fun h => h, hrun, fun h => absurd h (Nat.lt_irrefl _)⟩, hb⟩
      clear hb hrun hr hB
      go_wp2
      go_ret
      exact ⟨k, rfl, HN.out.1, HN.out.2⟩
end Go.Proofs.Qxb6603782a
