/-
  The walk of FnPostLengthBatchesPartitionMaximally (4).
-/
import Derived.Test.Qxb6603782aJoin
import Derived.Test.Qxb6603782aBytesB
namespace Go.Proofs.Qxb6603782a
open Go.RowKit

theorem row_shift {w : World} {b o n d : Nat} {M : Nat → MsgC} {E : Nat → Nat → EntC} (h : ∀ i, i < n → msgAt w b (o + i * 15) (M i) ∧ entsAt w (M i).ea (M i).en (E i)) :
    ∀ i, i < n - d → msgAt w b (o + d * 15 + i * 15) (M (d + i)) ∧ entsAt w (M (d + i)).ea (M (d + i)).en (E (d + i)) := by
  intro i hi
  have := h (d + i) (by omega)
  rw [show o + d * 15 + i * 15 = o + (d + i) * 15 by omega]
  exact this

theorem Bound.shift {n d : Nat} {M : Nat → MsgC} {E : Nat → Nat → EntC} (h : Bound n M E) : Bound (n - d) (fun i => M (d + i)) (fun i => E (d + i)) := fun i hi => h (d + i) (by omega)

/-- A run from Message k on, said of the whole list's sums. -/
def RunFrom (n k r : Nat) (P : Nat → Nat) : Prop := k + r ≤ n ∧ 0 < r ∧ (1 < r → P (k + r) ≤ P k + 131072) ∧ (k + r < n → P k + 131072 < P (k + r + 1))

theorem run_from {n k r : Nat} {M : Nat → MsgC} {E : Nat → Nat → EntC} (hk : k < n) (h : MaxRun (n - k) (PTo (fun i => M (k + i)) (fun i => E (k + i))) r) : RunFrom n k r (PTo M E) := by
  obtain ⟨h1, h2, h3, h4⟩ := h
  refine ⟨by omega, h2 (by omega), fun hr => ?_, fun hr => ?_⟩
  · have := h3 hr
    rw [PTo_shift M E k r]
    omega
  · have := h4 (by omega)
    rw [show k + r + 1 = k + (r + 1) by omega, PTo_shift M E k (r + 1)]
    omega

set_option maxRecDepth 20000 in
set_option maxHeartbeats 4000000 in
theorem batch_walk (a : Option Addr) (n c : Nat) (M : Nat → MsgC) (E : Nat → Nat → EntC) (w : World) (hr : rowAt w a n M E) (hF : Fits n M) (hnl : ∀ i, i < n → (M i).ea = none → (M i).en = 0) (hz : a = none → n = 0 ∧ c = 0) :
    Calls Try.prog 4 #[.slice a n c] w fun e w' => e = .returned (.bool true) ∧ Below w.heap.size w w' := by
  have HR : Hid (rowAt w a n M E) := hr
  have HF : Hid (Fits n M) := hF
  have HN : Hid (∀ i, i < n → (M i).ea = none → (M i).en = 0) := hnl
  have HZ : Hid (a = none → n = 0 ∧ c = 0) := hz
  clear hr hF hnl hz
  go_enter Try.func4, Try.ntmps4
  go_wp2_with fail
  refine (zb11_any a n c M E w HR.out).mono ?_
  rintro e w' ⟨t, rfl, ht, hw⟩
  obtain rfl := hw.symm
  cases t
  case false =>
    go_wp2
    go_ret
    exact ⟨rfl, Below.refl _ _⟩
  have hn := (ht rfl).1
  have HB : Hid (Bound n M E) := (ht rfl).2
  clear ht
  go_wp2_with fail
  refine (big_any a n c M E w hn HB.out HF.out HR.out).mono ?_
  rintro e w1 ⟨t, rfl, hb1⟩
  have HB1 : Hid (Below w.heap.size w w1) := hb1
  clear hb1
  cases t
  case true =>
    go_wp2
    go_ret
    exact ⟨rfl, HB1.out⟩
  go_wp2_with fail
  refine (raft_any a n c M E w1 hn HB.out HN.out HZ.out (HR.out.below HB1.out)).mono ?_
  rintro e w2 ⟨a2, M2, rfl, hen, hr2, hb2⟩
  have HEN : Hid (∀ i, i < n → (M2 i).en = (M i).en) := hen
  have HR2 : Hid (rowAt w2 a2 n M2 E) := hr2
  have HB2 : Hid (Below w.heap.size w w2) := HB1.out.trans (hb2.mono HB1.out.size)
  clear hen hr2 hb2 HB1 HF HN HZ
  by_cases h0 : n = 0
  · subst h0
    go_wp2_with fail
    refine (zzpost_any a2 0 0 M2 E w2 (by omega) (HB.out.congr HEN.out) HR2.out).mono ?_
    rintro e w3 ⟨r, rfl, hm, hb3⟩
    obtain rfl : r = 0 := by have := hm.1; omega
    have HB3 : Hid (Below w.heap.size w w3) := HB2.out.trans (hb3.mono HB2.out.size)
    clear hm hb3
    go_wp2_with fail
    go_ret
    exact ⟨by simp, HB3.out⟩
  obtain ⟨b, o, rfl, hrow⟩ := HR.out.resolve_left h0
  obtain ⟨b2, o2, rfl, hrow2⟩ := HR2.out.resolve_left h0
  have HRW : Hid (∀ i, i < n → msgAt w b (o + i * 15) (M i) ∧ entsAt w (M i).ea (M i).en (E i)) := hrow
  have HRW2 : Hid (∀ i, i < n → msgAt w2 b2 (o2 + i * 15) (M2 i) ∧ entsAt w2 (M2 i).ea (M2 i).en (E i)) := hrow2
  have hnz : ((n : Int) == 0) = false := by simp; omega
  clear hrow hrow2 HR HR2 h0
  go_wp2_with fail
  go_loopw [4] (fun i wr => ∃ k : Nat, k ≤ n ∧ i = .int .i64 k ∧ Below w2.heap.size w2 wr) (fun i _ => n - (intOf i).toNat)
  case atStart => exact ⟨0, Nat.zero_le _, rfl, Below.refl _ _⟩
  case round =>
    obtain ⟨k, hk, rfl, hb⟩ := hrel
    have HBk : Hid (Below w2.heap.size w2 wr) := hb
    clear hb
    by_cases hlt : k < n
    · have hkn : ¬ n = k := by omega
      have hkn' : ¬ k = n := by omega
      go_wp2_with fail
      refine (zzpost_any _ (n - k) (n - k) (fun i => M2 (k + i)) (fun i => E (k + i)) wr (by omega) (Bound.shift (HB.out.congr HEN.out)) (.inr ⟨b2, o2 + k * 15, rfl, row_shift (fun i hi => ⟨(HRW2.out i hi).1.below HBk.out, (HRW2.out i hi).2.below HBk.out⟩)⟩)).mono ?_
      rintro e w3 ⟨r, rfl, hm, hb3⟩
      have HRun : Hid (RunFrom n k r (PTo M E)) := run_from hlt (hm.congr (PTo_congr (fun i hi => by rw [HEN.out (k + i) (by omega)])))
      have HB3 : Hid (Below w2.heap.size w2 w3) := HBk.out.trans (hb3.mono HBk.out.size)
      have hr1 : k + r ≤ n := HRun.out.1
      have hr0 : 0 < r := HRun.out.2.1
      clear hm hb3 HBk
      go_wp2_with fail
      obtain ⟨wo, hwo⟩ : ∃ wo : World, wo = wr := ⟨_, rfl⟩
      clear hwo
      go_loopw [6, 7] (fun s i wi => ∃ i' s' : Nat, k ≤ i' ∧ i' ≤ k + r ∧ i = .int .i64 i' ∧ s = .int .i64 s' ∧ Hid (PTo M E k + s' = PTo M E i') ∧ Below w2.heap.size w2 wi) (fun _ i _ => k + r - (intOf i).toNat)
      case atStart => exact ⟨k, 0, Nat.le_refl _, by omega, rfl, rfl, rfl, HB3.out⟩
      case round =>
        obtain ⟨i, s, hki, hikr, rfl, rfl, HS, hbi⟩ := hrel
        have hple := PTo_le HB.out i (by omega)
        have hsle : s ≤ i * 1099511627776 := by have := HS.out; omega
        by_cases hil : i < k + r
        · have hin : i < n := by omega
          have hzi := sz_le HB.out hin
          have HBi : Hid (Below w.heap.size w wr) := HB2.out.trans (hbi.mono HB2.out.size)
          have HBi2 : Hid (Below w2.heap.size w2 wr) := hbi
          obtain ⟨h0, h1, h2, h3, h4, h5, h6, h7, h8, h9, h10, h11, h12, h13, h14⟩ := (HRW.out i hin).1.below HBi.out
          have HE : Hid (entsAt wr (M i).ea (M i).en (E i)) := (HRW.out i hin).2.below HBi.out
          have HBd : Hid ((M i).en ≤ 1048576 ∧ ∀ j, j < (M i).en → (E i j).xl ≤ 1048576) := HB.out i hin
          clear hbi
          go_wp2_with fail
          refine (size_any (M i) (E i) _ HBd.out.1 HBd.out.2 HE.out).mono ?_
          rintro e w4 ⟨rfl, hb4⟩
          have HB4 : Hid (Below w2.heap.size w2 w4) := HBi2.out.trans (hb4.mono HBi2.out.size)
          clear hb4 h0 h1 h2 h3 h4 h5 h6 h7 h8 h9 h10 h11 h12 h13 h14 HE HBd HBi HBi2
          go_wp2_with fail
          go_roundw
          case rel => exact ⟨i + 1, s + szTo (E i) (M i).en, by omega, by omega, by go_num, by go_num, (by have := HS.out; show _ = PTo M E i + szTo (E i) (M i).en; omega), HB4.out⟩
          case measure => simp [intOf]; omega
        · obtain rfl : i = k + r := by omega
          have HBi2 : Hid (Below w2.heap.size w2 wr) := hbi
          have HBi : Hid (Below w.heap.size w wr) := HB2.out.trans (hbi.mono HB2.out.size)
          have hcap : 1 < r → s ≤ 131072 := fun h => by have := HRun.out.2.2.1 h; have := HS.out; omega
          clear hbi
          by_cases hmore : k + r < n
          · have hzi := sz_le HB.out hmore
            obtain ⟨h0, h1, h2, h3, h4, h5, h6, h7, h8, h9, h10, h11, h12, h13, h14⟩ := (HRW.out (k + r) hmore).1.below HBi.out
            have HE : Hid (entsAt wr (M (k + r)).ea (M (k + r)).en (E (k + r))) := (HRW.out (k + r) hmore).2.below HBi.out
            have HBd : Hid ((M (k + r)).en ≤ 1048576 ∧ ∀ j, j < (M (k + r)).en → (E (k + r) j).xl ≤ 1048576) := HB.out (k + r) hmore
            have hover : 131072 < s + szTo (E (k + r)) (M (k + r)).en := by
              have h1 := HRun.out.2.2.2 hmore
              have h2 := HS.out
              have h3 : PTo M E (k + r + 1) = PTo M E (k + r) + szTo (E (k + r)) (M (k + r)).en := rfl
              omega
            by_cases h1r : 1 < r
            · have hcap' := hcap h1r
              clear hcap
              go_wp2_with fail
              refine (size_any (M (k + r)) (E (k + r)) _ HBd.out.1 HBd.out.2 HE.out).mono ?_
              rintro e w4 ⟨rfl, hb4⟩
              have HB4 : Hid (Below w2.heap.size w2 w4) := HBi2.out.trans (hb4.mono HBi2.out.size)
              clear hb4 h0 h1 h2 h3 h4 h5 h6 h7 h8 h9 h10 h11 h12 h13 h14 HE HBd HBi HBi2
              go_wp2_with fail
              go_roundw
              case rel => exact ⟨k + r, by omega, by go_num, HB4.out⟩
              case measure => simp [intOf]; omega
            · clear hcap
              go_wp2_with fail
              refine (size_any (M (k + r)) (E (k + r)) _ HBd.out.1 HBd.out.2 HE.out).mono ?_
              rintro e w4 ⟨rfl, hb4⟩
              have HB4 : Hid (Below w2.heap.size w2 w4) := HBi2.out.trans (hb4.mono HBi2.out.size)
              clear hb4 h0 h1 h2 h3 h4 h5 h6 h7 h8 h9 h10 h11 h12 h13 h14 HE HBd HBi HBi2
              go_wp2_with fail
              go_roundw
              case rel => exact ⟨k + r, by omega, by go_num, HB4.out⟩
              case measure => simp [intOf]; omega
          · by_cases h1r : 1 < r
            · have hcap' := hcap h1r
              clear hcap
              go_wp2_with fail
              go_roundw
              case rel => exact ⟨k + r, by omega, by go_num, HBi2.out⟩
              case measure => simp [intOf]; omega
            · clear hcap
              go_wp2_with fail
              go_roundw
              case rel => exact ⟨k + r, by omega, by go_num, HBi2.out⟩
              case measure => simp [intOf]; omega
    · have HBk2 : Hid (Below w.heap.size w wr) := HB2.out.trans (HBk.out.mono HB2.out.size)
      go_wp2
      go_ret
      exact ⟨rfl, HBk2.out⟩
end Go.Proofs.Qxb6603782a
