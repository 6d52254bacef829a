/-
  The walk of FnMessageAnswerSpec (5).
-/
import Derived.Test.Qxb6603779aGate
import Derived.Test.Qxb6603779aIntact
namespace Go.Proofs.Qxb6603779a
open Go.RowKit

set_option maxHeartbeats 2000000 in
theorem spec_walk (f cm p h e : Int) (h0 : 0 ≤ f) (h1 : f < 256) (a : Option Addr) (n c : Nat) (R : AvpC) (w : World) (hn : n ≤ 9223372036854775807) (hL : ∀ i, i < n → R.L i ≤ 9223372036854775807) (hin : avpsIn w a n c R) :
    Calls Try.prog 5 #[.int .u8 f, .int .u32 cm, .int .u32 p, .int .u32 h, .int .u32 e, .slice a n c] w fun e' w' => e' = .returned (.bool true) ∧ Below w.heap.size w w' := by
  go_enter Try.func5, Try.ntmps5
  go_wp2_with fail
  refine (gate13 a n c R f cm p h e w hn hL hin).mono ?_
  rintro e' w' ⟨t, rfl, ht, hw⟩
  obtain rfl := hw.symm
  cases t
  case false =>
    go_wp2
    go_ret
    exact ⟨rfl, Below.refl _ _⟩
  have hL' := ht rfl
  clear ht hL
  go_wp2_with fail
  refine (gate_b a n c R w hn hL' hin).mono ?_
  rintro e' w' ⟨t, rfl, ht, hw⟩
  obtain rfl := hw.symm
  cases t
  case false =>
    go_wp2
    go_ret
    exact ⟨rfl, Below.refl _ _⟩
  have hn' := ht rfl
  clear ht hn
  go_wp2_with fail
  refine (clone_any a n c R w hn' hL' hin).mono ?_
  rintro e' w1 ⟨a1, c1, rfl, ho1, hen1, hb1⟩
  have HB1 : Hid (Below w.heap.size w w1) := hb1
  clear hb1 hen1 hin
  go_wp2_with fail
  refine (build_any a1 n c1 _ R f cm p h e w1 hn' hL' ho1).mono ?_
  rintro e' w2 ⟨g, a2, c2, rfl, hm2, hg2, ho2, hen2, hb2⟩
  have HB2 : Hid (Below w.heap.size w w2) := HB1.out.trans (hb2.mono HB1.out.size)
  have HE : Hid (a2.isNone = a1.isNone) := hen2
  have O1 : Hid (avpsOwn w2 w.heap.size 46 a1 n c1 R) := ho1.below hb2
  have O2 : Hid (avpsOwn w2 w1.heap.size 44 a2 n c2 R) := ho2
  have M2 : Hid (msgOwn w2 g f cm p h e (.slice a2 n c2)) := hm2
  clear hb2 HB1 hg2 ho1 ho2 hen2 hm2
  go_wp2_with fail
  refine (answer_own g f cm p h e _ w2 M2.out).mono ?_
  rintro e' w3 ⟨rfl, hm3, hb3, hs3⟩
  have HB3 : Hid (Below w.heap.size w w3) := HB2.out.trans (hb3.mono HB2.out.size)
  have P1 : Hid (avpsOwn w3 w.heap.size 46 a1 n c1 R) := O1.out.below hb3
  have P2 : Hid (avpsOwn w3 w1.heap.size 44 a2 n c2 R) := O2.out.below hb3
  have M3 : Hid (msgOwn w3 g f cm p h e (.slice a2 n c2)) := M2.out.below hb3
  have hgz : g < w2.heap.size := World.rowIs.lt M2.out
  have hptr := ptr_apart hm3 M3.out (by omega)
  have A3 : Hid (msgAt w3 w2.heap.size (pbit f) cm p h e (.slice none 0 0)) := hm3.at
  clear hb3 HB2 hs3 hm3 M2 O1 O2 hgz
  go_wp2_with fail
  refine (isAnswer_any _ f cm p h e _ h0 h1 A3.out).mono ?_
  rintro e' w4 ⟨rfl, hw⟩
  obtain rfl := hw.symm
  clear hptr
  go_wp2_with fail
  refine (intact_any g a1 a2 n c1 c2 _ _ R f cm p h e w3 hn' hL' M3.out P1.out P2.out HE.out).mono ?_
  rintro e' w5 ⟨rfl, hb5⟩
  have HB5 : Hid (Below w.heap.size w w5) := HB3.out.trans (hb5.mono HB3.out.size)
  clear hb5
  go_wp2_with fail
  go_ret
  exact ⟨rfl, HB5.out⟩
end Go.Proofs.Qxb6603779a
