/-
  The walk of FnMessageAnswerIdempotent (6).
-/
import Derived.Test.Qxb6603779aGate
import Derived.Test.Qxb6603779aBuild
import Derived.Deep.QuietTactic
import Derived.BigQuiet
import Derived.LaidEqlPtr
namespace Go.Proofs.Qxb6603779a
open Go.RowKit

theorem nenil40 (a : Option Addr) (n c : Nat) (w : World) : (binOp .neq 40 (.slice a n c) (.slice none 0 0)).run Try.prog w = .ok (.bool (!a.isNone)) w := run_neq_slice_nil w 40 44 a n c Try.underlying40

theorem Try.info42 : (Try.prog.info? 42).map (fun i => (i.zero, i.size, i.bytes)) = some (some (.agg #[.int .u8 0, .int .u32 0, .int .u32 0, .int .u32 0, .int .u32 0, .slice none 0 0]), 6, 48) := by kernel_rfl

/-- Two Messages in two blocks: their addresses differ. -/
theorem ptr_other {w : World} {g1 g2 : Nat} {f1 f2 : Nat → Value} (h1 : w.rowIs g1 42 6 f1) (h2 : w.rowIs g2 42 6 f2) (hne : ¬ g1 = g2) :
    (binOp .eql 35 (.pointer (some ⟨g1, 0, none⟩)) (.pointer (some ⟨g2, 0, none⟩))).run Try.prog w = .ok (.bool false) w := by
  obtain ⟨i, hi, hz, hs, hb⟩ := info_parts Try.info42
  obtain ⟨c1, e1, _⟩ := h1
  obtain ⟨c2, e2, _⟩ := h2
  exact run_eql_ptr_other w (tp := 35) (te := 42) Try.underlying35 hi (by omega) (fun h => hne (congrArg Addr.block h)) e1 e2

set_option maxHeartbeats 2000000 in
theorem idem_walk (f cm p h e : Int) (h0 : 0 ≤ f) (h1 : f < 256) (a : Option Addr) (n c : Nat) (R : AvpC) (w : World) (hn : n ≤ 9223372036854775807) (hL : ∀ i, i < n → R.L i ≤ 9223372036854775807) (hin : avpsIn w a n c R) :
    Calls Try.prog 6 #[.int .u8 f, .int .u32 cm, .int .u32 p, .int .u32 h, .int .u32 e, .slice a n c] w fun e' w' => e' = .returned (.bool true) ∧ Below w.heap.size w w' := by
  go_enter Try.func6, Try.ntmps6
  go_wp2_with fail
  refine (gate20 a n c R f cm p h e w hn hL hin).mono ?_
  rintro e' w' ⟨t, rfl, ht, hw⟩
  obtain rfl := hw.symm
  cases t
  case false =>
    go_wp2
    go_ret
    exact ⟨rfl, Below.refl _ _⟩
  have hL' := ht rfl
  clear ht hL
  go_wp2_with fail
  refine (gate_b a n c R w hn hL' hin).mono ?_
  rintro e' w' ⟨t, rfl, ht, hw⟩
  obtain rfl := hw.symm
  cases t
  case false =>
    go_wp2
    go_ret
    exact ⟨rfl, Below.refl _ _⟩
  have hn' := ht rfl
  clear ht hn
  go_wp2_with fail
  refine (clone_any a n c R w hn' hL' hin).mono ?_
  rintro e' w1 ⟨a1, c1, rfl, ho1, hen1, hb1⟩
  have HB1 : Hid (Below w.heap.size w w1) := hb1
  clear hb1 hen1 hin
  go_wp2_with fail
  refine (build_any a1 n c1 _ R f cm p h e w1 hn' hL' ho1).mono ?_
  rintro e' w2 ⟨g, a2, c2, rfl, hm2, hg2, _, _, hb2⟩
  have HB2 : Hid (Below w.heap.size w w2) := HB1.out.trans (hb2.mono HB1.out.size)
  clear hb2 HB1 hg2 ho1
  go_wp2_with fail
  refine (answer_own g f cm p h e _ w2 hm2).mono ?_
  rintro e' w3 ⟨rfl, hm3, hb3, hs3⟩
  have HB3 : Hid (Below w.heap.size w w3) := HB2.out.trans (hb3.mono HB2.out.size)
  have z3 : w2.heap.size < w3.heap.size := by omega
  clear hb3 HB2 hs3 hm2
  go_wp2_with fail
  refine (answer_own _ _ cm p h e _ w3 hm3).mono ?_
  rintro e' w4 ⟨rfl, hm4, hb4, hs4⟩
  have HB4 : Hid (Below w.heap.size w w4) := HB3.out.trans (hb4.mono HB3.out.size)
  have hm3' := hm3.below hb4
  rw [(pbit_all f h0 h1).2.2.2] at hm4
  obtain ⟨p0, p1, p2, p3, p4, p5⟩ := hm3'.at
  obtain ⟨q0, q1, q2, q3, q4, q5⟩ := hm4.at
  have hptr := ptr_other hm4 hm3' (by omega)
  have hnil := eqnil40
  have hnil2 := nenil40
  have HM : Hid (msgAt w4 w2.heap.size (pbit f) cm p h e (.slice none 0 0)) := hm3'.at
  clear hb4 HB3 hs4 hm3 hm4 hm3' z3
  go_wp2_with fail
  clear hptr
  go_quiet (fail)
  go_wp2_with fail
  refine (isAnswer_any _ f cm p h e _ h0 h1 ?_).mono ?_
  · exact HM.out
  rintro e' w5 ⟨rfl, rfl⟩
  go_wp2_with fail
  go_ret
  exact ⟨rfl, HB4.out.os, HB4.out.tape, HB4.out.output, HB4.out.size, HB4.out.block⟩
end Go.Proofs.Qxb6603779a
