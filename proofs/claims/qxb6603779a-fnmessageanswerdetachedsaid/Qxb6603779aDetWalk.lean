/-
  The walk of FnMessageAnswerDetached (7).
-/
import Derived.Test.Qxb6603779aDetInv
namespace Go.Proofs.Qxb6603779a
open Go.RowKit

set_option maxRecDepth 40000 in
set_option maxHeartbeats 4000000 in
theorem det_walk (f cm p h e : Int) (h0 : 0 ≤ f) (h1 : f < 256) (a : Option Addr) (n c : Nat) (R : AvpC) (w : World) (hn : n ≤ 9223372036854775807) (hL : ∀ i, i < n → R.L i ≤ 9223372036854775807) (hin : avpsIn w a n c R) :
    Calls Try.prog 7 #[.int .u8 f, .int .u32 cm, .int .u32 p, .int .u32 h, .int .u32 e, .slice a n c] w fun e' w' => e' = .returned (.bool true) ∧ Below w.heap.size w w' := by
  go_enter Try.func7, Try.ntmps7
  go_wp2_with fail
  refine (gate21 a n c R f cm p h e w hn hL hin).mono ?_
  rintro e' w' ⟨t, rfl, ht, hw⟩
  obtain rfl := hw.symm
  cases t
  case false =>
    go_wp2
    go_ret
    exact ⟨rfl, Below.refl _ _⟩
  have hL' := ht rfl
  clear ht hL
  go_wp2_with fail
  refine (gate_b a n c R w hn hL' hin).mono ?_
  rintro e' w' ⟨t, rfl, ht, hw⟩
  obtain rfl := hw.symm
  cases t
  case false =>
    go_wp2
    go_ret
    exact ⟨rfl, Below.refl _ _⟩
  have hn' := ht rfl
  clear ht hn
  go_wp2_with fail
  refine (clone_any a n c R w hn' hL' hin).mono ?_
  rintro e' w1 ⟨a1, c1, rfl, ho1, hen1, hb1⟩
  have HB1 : Hid (Below w.heap.size w w1) := hb1
  clear hb1 hen1 hin
  go_wp2_with fail
  refine (build_any a1 n c1 _ R f cm p h e w1 hn' hL' ho1).mono ?_
  rintro e' w2 ⟨g, a2, c2, rfl, hm2, hg2, ho2, hen2, hb2⟩
  have HB2 : Hid (Below w.heap.size w w2) := HB1.out.trans (hb2.mono HB1.out.size)
  have HE : Hid (a2.isNone = a1.isNone) := hen2
  have O1 : Hid (avpsOwn w2 w.heap.size 46 a1 n c1 R) := ho1.below hb2
  have O2 : Hid (avpsOwn w2 w1.heap.size 44 a2 n c2 R) := ho2
  have M2 : Hid (msgOwn w2 g f cm p h e (.slice a2 n c2)) := hm2
  have G0 : Hid (w1.heap.size ≤ g ∧ w.heap.size ≤ w1.heap.size) := ⟨hg2, HB1.out.size⟩
  clear hb2 HB1 hg2 ho1 ho2 hen2 hm2
  go_wp2_with fail
  refine (answer_own g f cm p h e _ w2 M2.out).mono ?_
  rintro e' w3 ⟨rfl, hm3, hb3, hs3⟩
  obtain ⟨q0, q1, q2, q3, q4, q5⟩ := hm3.at
  have f0 := World.rowIs.frozen hm3 0
  have f1 := World.rowIs.frozen hm3 1
  have f2 := World.rowIs.frozen hm3 2
  have f3 := World.rowIs.frozen hm3 3
  have f4 := World.rowIs.frozen hm3 4
  have f5 := World.rowIs.frozen hm3 5
  have HM3 : Hid (msgOwn w3 w2.heap.size (pbit f) cm p h e (.slice none 0 0)) := hm3
  have HB3 : Hid (Below w2.heap.size w2 w3) := hb3
  have HS3 : Hid (w3.heap.size = w2.heap.size + 1) := hs3
  have s8 : IntKind.u8.signed = false := rfl
  have s32 : IntKind.u32.signed = false := rfl
  obtain ⟨i0, hi, hz0, hz1, hz2⟩ := info_parts Try.info44
  clear hm3 hb3 hs3
  go_wp2_with (at_builtin; (refine wpList_append_lies _ rfl (.tmp 98) (.tmp 101) 40 rfl 0 44 i0 _ 4 40 Try.underlying40 hi hz0 hz1 hz2 rfl (by omega) (.slice none 0 0) 0 [] rfl (World.ownsRow_nil _ _ _ _) ⟨w3.heap.size + 1, 0, none⟩ 1 1 (gift w3.heap.size) rfl rfl (news4 _ _ (by simp) _ _ _ _ _) (gift_one _) (by omega) (by decide) (by decide) (Nat.zero_le _) (w3.heap.size + 2) (by simp) ?_))
  intro ga capa w5 hown hgrow hat _
  obtain ⟨m5, gift6, b5, z5⟩ := gift_stage (f' := nx8 (pbit f)) (c' := nx32 cm) (p' := nx32 p) (h' := nx32 h) (e' := nx32 e) HM3.out hown hgrow (hat.resolve_left (by simp [Value.ownBlock]))
  have HGA : Hid (ga = w3.heap.size + 2) := hat.resolve_left (by simp [Value.ownBlock])
  clear hown hgrow hat q0 q1 q2 q3 q4 q5 f0 f1 f2 f3 f4 f5 hi hz0 hz1 hz2
  have q5 := m5.at.2.2.2.2.2
  have f5 := World.rowIs.frozen m5 5
  have G6 : Hid (giftAt (w5.setCell ⟨w2.heap.size, 5, none⟩ (.slice (some ⟨ga, 0, none⟩) 1 capa)) w2.heap.size ga w3.heap.size capa (nx8 (pbit f)) (nx32 cm) (nx32 p) (nx32 h) (nx32 e)) := gift6
  have B5 : Hid (Below w2.heap.size w2 (w5.setCell ⟨w2.heap.size, 5, none⟩ (.slice (some ⟨ga, 0, none⟩) 1 capa))) := (HB3.out.trans b5).setCell (Nat.le_refl _) _
  have Z5 : Hid (w3.heap.size + 2 ≤ w5.heap.size) := z5
  clear m5 gift6 b5 z5
  go_wp2_with fail
  obtain ⟨w6, hw6⟩ : ∃ w6 : World, w6 = w5.setCell ⟨w2.heap.size, 5, none⟩ (.slice (some ⟨ga, 0, none⟩) 1 capa) := ⟨_, rfl⟩
  have Z6 : Hid (w3.heap.size + 2 ≤ w6.heap.size) := by rw [hw6, World.size_setCell]; exact Z5.out
  rw [← hw6] at G6 B5 ⊢
  clear hw6 q5 f5 Z5 HM3
  refine (intact_any g a1 a2 n c1 c2 _ _ R f cm p h e w6 hn' hL' (M2.out.below B5.out) (O1.out.below B5.out) (O2.out.below B5.out) HE.out).mono ?_
  rintro e' w7 ⟨rfl, hb7⟩
  have B7 : Hid (Below w2.heap.size w2 w7) := B5.out.trans (hb7.mono B5.out.size)
  have G7 : Hid (giftAt w7 w2.heap.size ga w3.heap.size capa (nx8 (pbit f)) (nx32 cm) (nx32 p) (nx32 h) (nx32 e)) := G6.out.grown hb7
  have Z7 : Hid (w3.heap.size + 2 ≤ w7.heap.size) := Nat.le_trans Z6.out hb7.size
  clear G6 Z6 hb7 B5
  go_wp2_with fail
  refine (answer_own g f cm p h e _ w7 (M2.out.below B7.out)).mono ?_
  rintro e' w8 ⟨rfl, hm8, hb8, hs8⟩
  have B8 : Hid (Below w2.heap.size w2 w8) := B7.out.trans (hb8.mono B7.out.size)
  have G8 : Hid (giftAt w8 w2.heap.size ga w3.heap.size capa (nx8 (pbit f)) (nx32 cm) (nx32 p) (nx32 h) (nx32 e)) := G7.out.grown hb8
  have Z8 : Hid (w8.heap.size = w7.heap.size + 1) := hs8
  have A8 : Hid (msgOwn w8 w7.heap.size (pbit f) cm p h e (.slice none 0 0)) := hm8
  clear G7 hb8 B7 hs8 hm8
  go_wp2_with fail
  refine (isAnswer_any _ f cm p h e _ h0 h1 A8.out.at).mono ?_
  rintro e' w8' ⟨rfl, hw⟩
  obtain rfl := hw.symm
  have M8 := M2.out.below B8.out
  obtain ⟨q0, q1, q2, q3, q4, q5⟩ := M8.at
  have f0 := World.rowIs.frozen M8 0
  have f1 := World.rowIs.frozen M8 1
  have f2 := World.rowIs.frozen M8 2
  have f3 := World.rowIs.frozen M8 3
  have f4 := World.rowIs.frozen M8 4
  have HM8 : Hid (msgOwn w8 g f cm p h e (.slice a2 n c2)) := M8
  clear M8
  go_wp2_with fail
  have I9 : MInv w w8 w1.heap.size w2.heap.size w8.heap.size g a2 n c2 (setMsg w8 g (nx8 f) (nx32 cm) (nx32 p) (nx32 h) (nx32 e)) :=
    MInv.start HM8.out ((shapeL_of_own O2.out hL').keep B8.out.block) (HB2.out.trans (B8.out.mono HB2.out.size)) G0.out.1 (World.rowIs.lt M2.out) G0.out.2 B8.out.size _ _ _ _ _
  have HI9 : Hid (MInv w w8 w1.heap.size w2.heap.size w8.heap.size g a2 n c2 (setMsg w8 g (nx8 f) (nx32 cm) (nx32 p) (nx32 h) (nx32 e))) := I9
  clear I9 q0 q1 q2 q3 q4 q5 f0 f1 f2 f3 f4 HM8 HE O1 O2 M2 G0
  go_loopw [21] (fun i wr => ∃ k : Nat, k ≤ n ∧ i = .int .i64 k ∧ MInv w w8 w1.heap.size w2.heap.size w8.heap.size g a2 n c2 wr) (fun i _ => n - (intOf i).toNat)
  case atStart => exact ⟨0, Nat.zero_le _, rfl, HI9.out⟩
  case round =>
    obtain ⟨k, hk, rfl, hI⟩ := hrel
    obtain ⟨q5, f5⟩ := hI.list5
    have HI : Hid (MInv w w8 w1.heap.size w2.heap.size w8.heap.size g a2 n c2 wr) := hI
    clear HI9
    by_cases hlt : k < n
    · obtain ⟨g2, rfl, x0, x1, x2, ad, l, c', d0, d1, d2, d3, t0, t1, t2, hne, hl, hd⟩ := hI.at hlt
      have HD : Hid (shapeB wr w1.heap.size w2.heap.size ad l c') := hd
      have hne' : ¬ g2 = g := fun e => hne e.symm
      have e1 : (0 : Int) ≤ (k : Int) := by omega
      have e2 : (k : Int) < (n : Int) := by omega
      clear hI hd
      go_wp2
      go_region
      go_wp2
      go_region
      go_wp2
      go_region
      go_wp2
      obtain ⟨J, JD⟩ := HI.out.three (k := k) HD.out (nx32 x0) (nx8 x1) (nx32 x2)
      have HJ : Hid (MInv w w8 w1.heap.size w2.heap.size w8.heap.size g (some ⟨g2, 0, none⟩) n c2 (putThree wr g2 k (nx32 x0) (nx8 x1) (nx32 x2)) ∧ shapeB (putThree wr g2 k (nx32 x0) (nx8 x1) (nx32 x2)) w1.heap.size w2.heap.size ad l c') := ⟨J, JD⟩
      obtain ⟨wo, hwo⟩ : ∃ wo : World, wo = wr := ⟨_, rfl⟩
      rw [← hwo] at HJ ⊢
      clear J JD d0 d1 d2 d3 t0 t1 t2 q5 f5 HD HI hne hne' hwo
      go_loopw [23] (fun i wr => ∃ j : Nat, j ≤ l ∧ i = .int .i64 j ∧ MInv w w8 w1.heap.size w2.heap.size w8.heap.size g (some ⟨g2, 0, none⟩) n c2 wr ∧ shapeB wr w1.heap.size w2.heap.size ad l c') (fun i _ => l - (intOf i).toNat)
      case atStart => exact ⟨0, Nat.zero_le _, rfl, HJ.out.1, HJ.out.2⟩
      case round =>
        obtain ⟨j, hj, rfl, hI2, hD2⟩ := hrel
        clear HJ
        by_cases hjl : j < l
        · obtain ⟨gb, rfl, y0, y1, hu, z, dz, tz⟩ := hD2.at hjl
          have HN : Hid (MInv w w8 w1.heap.size w2.heap.size w8.heap.size g (some ⟨g2, 0, none⟩) n c2 (wr.setCell ⟨gb, j, none⟩ (.int .u8 (nx8 z))) ∧ shapeB (wr.setCell ⟨gb, j, none⟩ (.int .u8 (nx8 z))) w1.heap.size w2.heap.size (some ⟨gb, 0, none⟩) l c') := ⟨hI2.byte hu y0 y1 j _, hD2.byte gb j _⟩
          clear hI2 hD2 hu y0 y1
          go_wp2
          go_roundw
          case rel => exact ⟨j + 1, by omega, by go_num, HN.out.1, HN.out.2⟩
          case measure => simp [intOf]; omega
        · have HN : Hid (MInv w w8 w1.heap.size w2.heap.size w8.heap.size g (some ⟨g2, 0, none⟩) n c2 wr) := hI2
          clear hI2 hD2
          go_wp2
          go_roundw
          case rel => exact ⟨k + 1, by omega, by go_num, HN.out⟩
          case measure => simp [intOf]; omega
    · have HW : Hid (w2.heap.size ≤ w7.heap.size ∧ w7.heap.size < w8.heap.size ∧ w2.heap.size ≤ ga ∧ w2.heap.size ≤ w3.heap.size) := by
        have z1 := HGA.out
        have z2 := HS3.out
        have z3 := Z7.out
        have z4 := Z8.out
        exact ⟨by omega, by omega, by omega, by omega⟩
      obtain ⟨xs, hx⟩ := hI.owns hn'
      obtain ⟨i0, hi, hz0, hz1, hz2⟩ := info_parts Try.info44
      have hb63 : n + 1 ≤ maxLen := by unfold maxLen; omega
      clear hI HGA HS3 Z7 Z8 B8 HB2 HB3
      go_wp2_with (at_builtin; (refine wpList_append_lies _ rfl (.tmp 238) (.tmp 241) 40 rfl 0 44 i0 _ 4 40 Try.underlying40 hi hz0 hz1 hz2 rfl (by omega) (.slice a2 n c2) n xs rfl ((hx.alloc _).alloc _) ⟨wr.heap.size + 1, 0, none⟩ 1 1 (gift2 wr.heap.size) rfl rfl (news4 _ _ (by simp) _ _ _ _ _) (gift2_one _) (by omega) hb63 (by omega) (Nat.zero_le _) (wr.heap.size + 2) (by simp) ?_))
      intro g3 cap3 w10 _ hgrow _ _
      obtain ⟨⟨u5, t5⟩, kept, b11, z11⟩ := HI.out.final hgrow (.slice (some ⟨g3, 0, none⟩) (n + 1) cap3)
      have K11 : Hid (∀ k, w2.heap.size ≤ k → k < w8.heap.size → (w10.setCell ⟨g, 5, none⟩ (.slice (some ⟨g3, 0, none⟩) (n + 1) cap3)).heap[k]? = w8.heap[k]?) := kept
      have B11 : Hid (Below w.heap.size w (w10.setCell ⟨g, 5, none⟩ (.slice (some ⟨g3, 0, none⟩) (n + 1) cap3))) := b11
      have Z11 : Hid (w8.heap.size ≤ (w10.setCell ⟨g, 5, none⟩ (.slice (some ⟨g3, 0, none⟩) (n + 1) cap3)).heap.size) := z11
      clear hgrow kept b11 z11 hx hi hz0 hz1 hz2 q5 f5 HI
      go_wp2_with fail
      obtain ⟨w11, hw11⟩ : ∃ w11 : World, w11 = w10.setCell ⟨g, 5, none⟩ (.slice (some ⟨g3, 0, none⟩) (n + 1) cap3) := ⟨_, rfl⟩
      rw [← hw11] at K11 B11 Z11 ⊢
      clear hw11 u5 t5
      have A11 : msgOwn w11 w7.heap.size (pbit f) cm p h e (.slice none 0 0) := World.rowIs.of_block A8.out (K11.out _ HW.out.1 HW.out.2.1)
      have G11 := G8.out.below (w' := w11) (fun k hk => by
        obtain ⟨l1, l2, l3⟩ := G8.out.lt
        obtain ⟨l4, l5, l6, l7⟩ := HW.out
        rcases hk with rfl | rfl | rfl
        · exact K11.out _ (Nat.le_refl _) l1
        · exact K11.out _ l6 l2
        · exact K11.out _ l7 l3)
      have hgd : w3.heap.size < w11.heap.size := Nat.lt_of_lt_of_le G8.out.lt.2.2 Z11.out
      have hwz : w.heap.size ≤ w11.heap.size := B11.out.size
      clear K11 Z11 A8 G8 HW
      refine (isAnswer_any _ f cm p h e w11 h0 h1 A11.at).mono ?_
      rintro e' w11' ⟨rfl, hw⟩
      obtain rfl := hw.symm
      obtain ⟨ma, ⟨r0, r1, r2, r3⟩, rd⟩ := G11
      obtain ⟨m0, m1, m2, m3, m4, m5⟩ := ma.at
      simp only [nx8, nx32] at m0 m1 m2 m3 m4
      clear ma A11
      go_wp2
      go_ret
      exact ⟨rfl, B11.out.alloc hwz _⟩
end Go.Proofs.Qxb6603779a
