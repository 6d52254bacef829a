/-
  The walk of FnFrameByteReadsBackThenFailsForGood (5).
-/
import Derived.Test.Qxb6603782aCopy
import Derived.Test.Qxb6603782aFrame
namespace Go.Proofs.Qxb6603782a
open Go.RowKit

/-- The reader's rest behind k reads of n bytes in block B. -/
def CurIs (B n k : Nat) (v : Value) : Prop := ∃ a, v = .slice a (n - k) (n - k) ∧ (k < n → a = some ⟨B, k, none⟩)
/-- A slice of no bytes. -/
def EmptyIs (v : Value) : Prop := ∃ a c, v = .slice a 0 c
/-- A bool. -/
def BoolIs (v : Value) : Prop := ∃ t, v = .bool t

/-- One read. -/
def StepPost (B n k : Nat) (z : Int) (f : Bool) (w : World) (e : Ending) (w' : World) : Prop := ∃ v, e = .returned (.tuple #[.int .u8 z, v, .bool f]) ∧ CurIs B n (k + 1) v ∧ Below w.heap.size w w'

theorem frame_step (B n k : Nat) (z : Int) (f : Bool) (w : World) (hk : k < n) (hn : n ≤ 1048576) (hz : w.cell? ⟨B, k, none⟩ = some (.int .u8 z)) :
    Calls Try.prog 15 #[.slice (some ⟨B, k, none⟩) (n - k) (n - k), .bool f] w fun e w' => StepPost B n k z f w e w' := by
  by_cases h1 : n - k = 1
  · rw [h1]
    refine (frame_last B k z f w hz).mono ?_
    rintro e w' ⟨rfl, hb⟩
    exact ⟨_, rfl, ⟨_, by rw [show n - (k + 1) = 0 by omega], fun h => by omega⟩, hb⟩
  · obtain ⟨m, hm⟩ : ∃ m, n - k = m + 1 := ⟨n - k - 1, by omega⟩
    rw [hm]
    refine (frame_more B k m m z f w (by omega) (Nat.le_refl _) (by omega) (by omega) hz).mono ?_
    rintro e w' ⟨rfl, hb⟩
    exact ⟨_, rfl, ⟨_, by rw [show n - (k + 1) = m by omega], fun _ => rfl⟩, hb⟩

/-- The copy of rest. -/
def RestIs (w w1 : World) (B n : Nat) (z : Nat → Int) (a : Option Addr) : Prop := (0 < n → a = some ⟨B, 0, none⟩ ∧ w1.rowIs B 5 n (fun i => .int .u8 (z i))) ∧ Below w.heap.size w w1

set_option maxHeartbeats 1000000 in
/-- Behind the copy. -/
theorem reads_back (a0 : Option Addr) (n0 c0 : Nat) (f : Bool) (E : Nat) (hE : E ≤ 65536) (a : Option Addr) (n : Nat) (z : Nat → Int) (B : Nat) (w : World) (hn : n ≤ 1048576) (hn0 : n0 ≤ 1048576)
    (hcp : Calls Try.prog 14 #[.slice a0 n0 c0] w fun e w1 => e = .returned (.slice a n n) ∧ RestIs w w1 B n z a) :
    Calls Try.prog 5 #[.slice a0 n0 c0, .bool f, .int .i64 E] w fun e w' => e = .returned (.bool true) ∧ Below w.heap.size w w' := by
  have HC : Hid (Calls Try.prog 14 #[.slice a0 n0 c0] w fun e w1 => e = .returned (.slice a n n) ∧ RestIs w w1 B n z a) := hcp
  clear hcp
  go_enter Try.func5, Try.ntmps5
  go_wp2_with fail
  refine (guard13 a0 n0 c0 f E w hn0).mono ?_
  rintro e w' ⟨rfl, hw⟩
  obtain rfl := hw.symm
  go_wp2_with fail
  refine Calls.mono HC.out ?_
  rintro e w1 ⟨rfl, hr, hb⟩
  clear HC
  have HR : Hid (0 < n → a = some ⟨B, 0, none⟩ ∧ w1.rowIs B 5 n (fun i => .int .u8 (z i))) := hr
  have HB : Hid (Below w.heap.size w w1) := hb
  clear hr hb
  go_wp2_with fail
  go_loopw [7, 8, 9] (fun cur g i wr => ∃ k : Nat, k ≤ n ∧ i = .int .i64 k ∧ g = .bool f ∧ CurIs B n k cur ∧ Below w1.heap.size w1 wr) (fun _ _ i _ => n - (intOf i).toNat)
  case atStart => exact ⟨0, Nat.zero_le _, rfl, rfl, ⟨a, rfl, fun h => (HR.out h).1⟩, Below.refl _ _⟩
  case round =>
    obtain ⟨k, hk, rfl, rfl, ⟨ak, rfl, hak⟩, hbr⟩ := hrel
    by_cases hlt : k < n
    · obtain ⟨rfl, hrow⟩ := HR.out (by omega)
      obtain rfl := hak hlt
      have hbk := hrow.of_block (hbr.block B hrow.lt)
      have hz := hbk.cell hlt
      have HW : Hid (Below w1.heap.size w1 wr) := hbr
      clear hbr hbk hak hrow
      go_wp2_with fail
      refine (frame_step B n k (z k) f wr hlt hn hz).mono ?_
      rintro e w2 ⟨v, rfl, hcur, hb2⟩
      have HW2 : Hid (Below w1.heap.size w1 w2) := HW.out.trans (hb2.mono HW.out.size)
      have hz2 : w2.cell? ⟨B, k, none⟩ = some (.int .u8 (z k)) := (hb2.cell (World.block_lt_of_cell? _ _ hz)).trans hz
      clear hz hb2 HW
      go_wp2_with fail
      go_roundw
      case rel => exact ⟨k + 1, by omega, by go_num, rfl, hcur, HW2.out⟩
      case measure => simp [intOf]; omega
    · obtain rfl : k = n := by omega
      have HW : Hid (Below w.heap.size w wr) := HB.out.trans (hbr.mono HB.out.size)
      clear hbr hak HR HB
      rw [Nat.sub_self]
      go_wp2_with fail
      go_loopw [7, 8, 13] (fun cur g j wr => ∃ q : Nat, q ≤ E + 1 ∧ j = .int .i64 q ∧ EmptyIs cur ∧ BoolIs g ∧ Below w.heap.size w wr) (fun _ _ j _ => E + 1 - (intOf j).toNat)
      case atStart => exact ⟨0, Nat.zero_le _, rfl, ⟨_, _, rfl⟩, ⟨_, rfl⟩, HW.out⟩
      case round =>
        obtain ⟨q, hq, rfl, ⟨aq, cq, rfl⟩, ⟨t, rfl⟩, hbq⟩ := hrel
        have HQ : Hid (Below w.heap.size w wr) := hbq
        clear hbq HW
        by_cases hql : q ≤ E
        · go_wp2_with fail
          refine (frame_empty aq cq t _).mono ?_
          rintro e w3 ⟨rfl, hb3⟩
          have HQ3 : Hid (Below w.heap.size w w3) := HQ.out.trans (hb3.mono HQ.out.size)
          clear hb3
          go_wp2_with fail
          go_roundw
          case rel =>
            exact ⟨q + 1, by omega, by go_num, ⟨_, _, rfl⟩, ⟨_, rfl⟩, HQ3.out⟩
          case measure => simp [intOf]; omega
        · go_wp2_with fail
          go_ret
          exact ⟨rfl, HQ.out⟩

set_option maxHeartbeats 400000 in
theorem early_big (a : Option Addr) (n c : Nat) (f : Bool) (x : Int) (w : World) (hn : 1048576 < n) (hm : n ≤ 9223372036854775807) :
    Calls Try.prog 5 #[.slice a n c, .bool f, .int .i64 x] w fun e w' => e = .returned (.bool true) ∧ w' = w := by
  go_enter Try.func5, Try.ntmps5
  go_wp2_with fail
  refine (guard13_big a n c f x w hn hm).mono ?_
  rintro e w' ⟨rfl, hw⟩
  obtain rfl := hw.symm
  go_wp2_with fail
  go_ret
  exact ⟨rfl, rfl⟩

set_option maxHeartbeats 400000 in
theorem early_neg (a : Option Addr) (n c : Nat) (f : Bool) (x : Int) (w : World) (hn : n ≤ 1048576) (hx : x < 0) :
    Calls Try.prog 5 #[.slice a n c, .bool f, .int .i64 x] w fun e w' => e = .returned (.bool true) ∧ w' = w := by
  go_enter Try.func5, Try.ntmps5
  go_wp2_with fail
  refine (guard13 a n c f x w hn).mono ?_
  rintro e w' ⟨rfl, hw⟩
  obtain rfl := hw.symm
  go_wp2_with fail
  go_ret
  exact ⟨rfl, rfl⟩

set_option maxHeartbeats 400000 in
theorem early_far (a : Option Addr) (n c : Nat) (f : Bool) (x : Int) (w : World) (hn : n ≤ 1048576) (hx0 : 0 ≤ x) (hx : 65536 < x) :
    Calls Try.prog 5 #[.slice a n c, .bool f, .int .i64 x] w fun e w' => e = .returned (.bool true) ∧ w' = w := by
  go_enter Try.func5, Try.ntmps5
  go_wp2_with fail
  refine (guard13 a n c f x w hn).mono ?_
  rintro e w' ⟨rfl, hw⟩
  obtain rfl := hw.symm
  go_wp2_with fail
  go_ret
  exact ⟨rfl, rfl⟩

/-- The law's walk: rest nil, or some bytes z. -/
theorem frame_walk (a : Option Addr) (n c : Nat) (z : Nat → Int) (f : Bool) (x : Int) (w : World) (hn : n ≤ 9223372036854775807)
    (hr : (a = none ∧ n = 0 ∧ c = 0) ∨ ∃ ad, a = some ad ∧ ∀ i, i < n → w.cell? (ad.add i) = some (.int .u8 (z i))) :
    Calls Try.prog 5 #[.slice a n c, .bool f, .int .i64 x] w fun e w' => e = .returned (.bool true) ∧ Below w.heap.size w w' := by
  by_cases h1 : 1048576 < n
  · refine (early_big a n c f x w h1 hn).mono ?_
    rintro e w' ⟨rfl, rfl⟩
    exact ⟨rfl, Below.refl _ _⟩
  by_cases h2 : x < 0
  · refine (early_neg a n c f x w (by omega) h2).mono ?_
    rintro e w' ⟨rfl, rfl⟩
    exact ⟨rfl, Below.refl _ _⟩
  by_cases h3 : 65536 < x
  · refine (early_far a n c f x w (by omega) (by omega) h3).mono ?_
    rintro e w' ⟨rfl, rfl⟩
    exact ⟨rfl, Below.refl _ _⟩
  obtain ⟨E, rfl⟩ : ∃ E : Nat, x = (E : Int) := ⟨x.toNat, by omega⟩
  rcases hr with ⟨rfl, rfl, rfl⟩ | ⟨ad, rfl, hx⟩
  · refine reads_back none 0 0 f E (by omega) none 0 z 0 w (by omega) (by omega) ?_
    refine (copy_nil w).mono ?_
    rintro e w' ⟨rfl, rfl⟩
    exact ⟨rfl, fun h => by omega, Below.refl _ _⟩
  · refine reads_back (some ad) n c f E (by omega) (some ⟨w.heap.size, 0, none⟩) n z w.heap.size w (by omega) (by omega) ?_
    refine (copy_some ad n c z w (by omega) hx).mono ?_
    rintro e w' ⟨rfl, q1, q2, _⟩
    exact ⟨rfl, fun _ => ⟨rfl, q1⟩, q2⟩
end Go.Proofs.Qxb6603782a
