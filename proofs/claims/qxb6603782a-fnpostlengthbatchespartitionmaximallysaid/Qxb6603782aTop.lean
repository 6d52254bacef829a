/-
  The walk of zzTopDown (10).
-/
import Derived.Test.Qxb6603782aPlain
namespace Go.Proofs.Qxb6603782a
open Go.RowKit

theorem int_eq {k : IntKind} {a b : Int} (h : a = b) : Value.int k a = .int k b := by rw [h]

set_option maxHeartbeats 1000000 in
theorem top_some (b o n c : Nat) (M : Nat → MsgC) (E : Nat → Nat → EntC) (w : World) (hn : n ≤ 1048576) (hB : Bound n M E) (hr : ∀ i, i < n → msgAt w b (o + i * 15) (M i) ∧ entsAt w (M i).ea (M i).en (E i)) :
    Calls Try.prog 10 #[.slice (some ⟨b, o, none⟩) n c] w fun e w' => ∃ r : Nat, e = .returned (.int .i64 r) ∧ MaxRun n (PTo M E) r ∧ Below w.heap.size w w' := by
  go_enter Try.func10, Try.ntmps10
  go_wp2
  go_loopw [3, 4] (fun s i wr => ∃ k : Nat, k ≤ n ∧ i = .int .i64 k ∧ s = .int .i64 (PTo M E k) ∧ Below w.heap.size w wr) (fun _ i _ => n - (intOf i).toNat)
  case atStart => exact ⟨0, Nat.zero_le _, rfl, rfl, Below.refl _ _⟩
  case round =>
    obtain ⟨k, hk, rfl, rfl, hb⟩ := hrel
    by_cases hlt : k < n
    · have hp := PTo_le hB k hk
      have hz := sz_le hB hlt
      have HS : Hid (PTo M E (k + 1) = PTo M E k + szTo (E k) (M k).en) := rfl
      obtain ⟨h0, h1, h2, h3, h4, h5, h6, h7, h8, h9, h10, h11, h12, h13, h14⟩ := (hr k hlt).1.below hb
      have HE : Hid (entsAt wr (M k).ea (M k).en (E k)) := (hr k hlt).2.below hb
      have HBd : Hid ((M k).en ≤ 1048576 ∧ ∀ j, j < (M k).en → (E k j).xl ≤ 1048576) := hB k hlt
      have HW : Hid (Below w.heap.size w wr) := hb
      clear hr hB hb
      go_wp2_with fail
      refine (size_any (M k) (E k) _ HBd.out.1 HBd.out.2 HE.out).mono ?_
      rintro e w2 ⟨rfl, hb2⟩
      have HW2 : Hid (Below w.heap.size w w2) := HW.out.trans (hb2.mono HW.out.size)
      clear hb2 h0 h1 h2 h3 h4 h5 h6 h7 h8 h9 h10 h11 h12 h13 h14 HW HE HBd
      go_wp2_with fail
      go_roundw
      case rel => exact ⟨k + 1, by omega, by go_num, by rw [HS.out]; go_num, HW2.out⟩
      case measure => simp [intOf]; omega
    · obtain rfl : k = n := by omega
      have HW : Hid (Below w.heap.size w wr) := hb
      clear hb
      go_wp2_with fail
      go_loopw [3, 5] (fun s i wr => ∃ q : Nat, q ≤ k ∧ i = .int .i64 q ∧ s = .int .i64 (PTo M E q) ∧ (0 < k → 0 < q) ∧ (q < k → 131072 < PTo M E (q + 1)) ∧ Below w.heap.size w wr) (fun _ i _ => (intOf i).toNat)
      case atStart => exact ⟨k, Nat.le_refl _, rfl, rfl, fun h => h, fun h => absurd h (Nat.lt_irrefl _), HW.out⟩
      case round =>
        obtain ⟨q, hq, rfl, rfl, hpos, hnext, hbq⟩ := hrel
        clear HW
        by_cases hgo : 1 < q ∧ 131072 < PTo M E q
        · obtain ⟨h1q, hbig⟩ := hgo
          obtain ⟨p, rfl⟩ : ∃ p, q = p + 1 := ⟨q - 1, by omega⟩
          have hlp : p < k := by omega
          have hp := PTo_le hB (p + 1) hq
          have hz := sz_le hB hlp
          have HS : Hid (PTo M E (p + 1) = PTo M E p + szTo (E p) (M p).en) := rfl
          have hle : szTo (E p) (M p).en ≤ PTo M E (p + 1) := by rw [HS.out]; omega
          obtain ⟨h0, h1, h2, h3, h4, h5, h6, h7, h8, h9, h10, h11, h12, h13, h14⟩ := (hr p hlp).1.below hbq
          have HE : Hid (entsAt wr (M p).ea (M p).en (E p)) := (hr p hlp).2.below hbq
          have HBd : Hid ((M p).en ≤ 1048576 ∧ ∀ j, j < (M p).en → (E p j).xl ≤ 1048576) := hB p hlp
          have HW : Hid (Below w.heap.size w wr) := hbq
          have HX : Hid (131072 < PTo M E (p + 1)) := hbig
          clear hr hB hbq hnext hpos
          go_wp2_with fail
          refine (size_any (M p) (E p) _ HBd.out.1 HBd.out.2 HE.out).mono ?_
          rintro e w2 ⟨rfl, hb2⟩
          have HW2 : Hid (Below w.heap.size w w2) := HW.out.trans (hb2.mono HW.out.size)
          clear hb2 h0 h1 h2 h3 h4 h5 h6 h7 h8 h9 h10 h11 h12 h13 h14 HW HE HBd
          go_wp2_with fail
          go_roundw
          case rel => exact ⟨p, by omega, by go_num, int_eq (by have := HS.out; omega), fun _ => by omega, fun _ => HX.out, HW2.out⟩
          case measure => simp [intOf]
        · have hend : MaxRun k (PTo M E) q := ⟨hq, hpos, fun h => by omega, hnext⟩
          have HN : Hid (MaxRun k (PTo M E) q ∧ Below w.heap.size w wr) := ⟨hend, hbq⟩
          have hp := PTo_le hB q hq
          clear hend hbq hnext hr hB hpos
          by_cases h1q : 1 < q
          · have h2q : ¬ 131072 < PTo M E q := fun h => hgo ⟨h1q, h⟩
            clear hgo
            go_wp2_with fail
            go_ret
            exact ⟨q, rfl, HN.out.1, HN.out.2⟩
          · clear hgo
            go_wp2_with fail
            go_ret
            exact ⟨q, rfl, HN.out.1, HN.out.2⟩
end Go.Proofs.Qxb6603782a
