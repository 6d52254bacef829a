/-
  The walk of FnPostLengthMatchesTopDownModel (3).
-/
import Derived.Test.Qxb6603782aJoin
import Derived.Test.Qxb6603782aBytesA
namespace Go.Proofs.Qxb6603782a
open Go.RowKit

set_option maxHeartbeats 1000000 in
theorem match_walk (a : Option Addr) (n c : Nat) (M : Nat → MsgC) (E : Nat → Nat → EntC) (w : World) (hr : rowAt w a n M E) (hF : Fits n M) (hnl : ∀ i, i < n → (M i).ea = none → (M i).en = 0) (hz : a = none → n = 0 ∧ c = 0) :
    Calls Try.prog 3 #[.slice a n c] w fun e w' => e = .returned (.bool true) ∧ Below w.heap.size w w' := by
  have HR : Hid (rowAt w a n M E) := hr
  have HF : Hid (Fits n M) := hF
  have HN : Hid (∀ i, i < n → (M i).ea = none → (M i).en = 0) := hnl
  have HZ : Hid (a = none → n = 0 ∧ c = 0) := hz
  clear hr hF hnl hz
  go_enter Try.func3, Try.ntmps3
  go_wp2_with fail
  refine (zb6_any a n c M E w HR.out).mono ?_
  rintro e w' ⟨t, rfl, ht, hw⟩
  obtain rfl := hw.symm
  cases t
  case false =>
    go_wp2
    go_ret
    exact ⟨rfl, Below.refl _ _⟩
  have hn := (ht rfl).1
  have HB : Hid (Bound n M E) := (ht rfl).2
  clear ht
  go_wp2_with fail
  refine (big_any a n c M E w hn HB.out HF.out HR.out).mono ?_
  rintro e w1 ⟨t, rfl, hb1⟩
  have HB1 : Hid (Below w.heap.size w w1) := hb1
  clear hb1
  cases t
  case true =>
    go_wp2
    go_ret
    exact ⟨rfl, HB1.out⟩
  go_wp2_with fail
  refine (raft_any a n c M E w1 hn HB.out HN.out HZ.out (HR.out.below HB1.out)).mono ?_
  rintro e w2 ⟨a2, M2, rfl, hen, hr2, hb2⟩
  have HEN : Hid (∀ i, i < n → (M2 i).en = (M i).en) := hen
  have HR2 : Hid (rowAt w2 a2 n M2 E) := hr2
  have HB2 : Hid (Below w.heap.size w w2) := HB1.out.trans (hb2.mono HB1.out.size)
  clear hen hr2 hb2
  go_wp2_with fail
  refine (zzpost_any a2 n n M2 E w2 hn (HB.out.congr HEN.out) HR2.out).mono ?_
  rintro e w3 ⟨r, rfl, hm, hb3⟩
  have HM : Hid (MaxRun n (PTo M E) r) := hm.congr (PTo_congr (fun i hi => by rw [HEN.out i hi]))
  have HB3 : Hid (Below w.heap.size w w3) := HB2.out.trans (hb3.mono HB2.out.size)
  clear hm hb3
  go_wp2_with fail
  refine (top_any a n c M E w3 hn HB.out (HR.out.below HB3.out)).mono ?_
  rintro e w4 ⟨r', rfl, hm', hb4⟩
  obtain rfl := HM.out.unique (PTo_succ M E) hm'
  have HB4 : Hid (Below w.heap.size w w4) := HB3.out.trans (hb4.mono HB3.out.size)
  clear hm' hb4
  go_wp2_with fail
  go_ret
  exact ⟨by simp, HB4.out⟩
end Go.Proofs.Qxb6603782a
