/-
  The walk of zzTooBig (7).
-/
import Derived.Test.Qxb6603782aPlain
namespace Go.Proofs.Qxb6603782a
open Go.RowKit

/-- A bool; nothing that was there has turned. -/
def BigPost (w : World) (e : Ending) (w' : World) : Prop := ∃ t, e = .returned (.bool t) ∧ Below w.heap.size w w'

/-- Strings and data as long as Go lets them be. -/
def Fits (n : Nat) (M : Nat → MsgC) : Prop := ∀ i, i < n → (M i).s0.size ≤ 9223372036854775807 ∧ (M i).s1.size ≤ 9223372036854775807 ∧ (M i).s2.size ≤ 9223372036854775807 ∧ (M i).dn ≤ 9223372036854775807

theorem grow_int (t : Nat) (l : Int) (w : World) (ht : t ≤ 1048576) (h0 : 0 ≤ l) (hl : l ≤ 9223372036854775807) : Calls Try.prog 16 #[.int .i64 t, .int .i64 l] w fun e w' => GrowPost w e w' := by
  obtain ⟨m, rfl⟩ : ∃ m : Nat, l = (m : Int) := ⟨l.toNat, by omega⟩
  exact grow_any t m w ht (by omega)

set_option maxHeartbeats 400000 in
theorem big_many (a : Option Addr) (n c : Nat) (w : World) (hn : 131072 < n) (hm : n ≤ 1048576) : Calls Try.prog 7 #[.slice a n c] w fun e w' => BigPost w e w' := by
  go_enter Try.func7, Try.ntmps7
  go_wp2
  go_ret
  exact ⟨true, rfl, Below.refl _ _⟩

set_option maxHeartbeats 400000 in
theorem big_none (a : Option Addr) (c : Nat) (w : World) : Calls Try.prog 7 #[.slice a 0 c] w fun e w' => BigPost w e w' := by
  go_enter Try.func7, Try.ntmps7
  go_wp2
  refine wp_loop_rounds 1 ?_
  rw [rounds_succ]
  go_wp2
  go_ret
  exact ⟨false, rfl, Below.refl _ _⟩

set_option maxRecDepth 20000 in
set_option maxHeartbeats 4000000 in
theorem big_some (b o n c : Nat) (M : Nat → MsgC) (E : Nat → Nat → EntC) (w : World) (hn : n ≤ 131072) (hB : Bound n M E) (hF : Fits n M) (hr : ∀ i, i < n → msgAt w b (o + i * 15) (M i) ∧ entsAt w (M i).ea (M i).en (E i)) :
    Calls Try.prog 7 #[.slice (some ⟨b, o, none⟩) n c] w fun e w' => BigPost w e w' := by
  go_enter Try.func7, Try.ntmps7
  go_wp2
  go_loopw [3, 5] (fun s i wr => ∃ k q : Nat, k ≤ n ∧ i = .int .i64 k ∧ s = .int .i64 q ∧ q ≤ 1048576 ∧ Below w.heap.size w wr) (fun _ i _ => n - (intOf i).toNat)
  case atStart => exact ⟨0, 8 * n, Nat.zero_le _, rfl, by go_num, by omega, Below.refl _ _⟩
  case round =>
    obtain ⟨k, q, hk, rfl, rfl, hq, hb⟩ := hrel
    by_cases hlt : k < n
    · obtain ⟨h0, h1, h2, h3, h4, h5, h6, h7, h8, h9, h10, h11, h12, h13, h14⟩ := (hr k hlt).1.below hb
      have HE : Hid (entsAt wr (M k).ea (M k).en (E k)) := (hr k hlt).2.below hb
      have HXL : Hid (∀ j, j < (M k).en → (E k j).xl ≤ 1048576) := (hB k hlt).2
      have hen := (hB k hlt).1
      obtain ⟨l0, l1, l2, l3⟩ := hF k hlt
      have HW : Hid (Below w.heap.size w wr) := hb
      clear hr hb hB hF
      rcases HE.out with he0 | ⟨eb, eo, hea, hee⟩
      · have H0 : Hid ((M k).en = 0) := he0
        clear HE he0
        have HA : Hid (Below w.heap.size w (wr.alloc (.cells #[.string (M k).s0, .string (M k).s1, .string (M k).s2, .int .u64 (M k).x3, .int .u64 (M k).x4, .int .u64 (M k).x5, .slice (M k).ea (M k).en (M k).ec, .int .u64 (M k).x7, .bool (M k).b8, .int .u64 (M k).x9, .int .u64 (M k).x10, .int .u64 (M k).x11, .int .u64 (M k).x12, .slice (M k).da (M k).dn (M k).dc, .bool (M k).b14] 33))) := HW.out.alloc HW.out.size _
        go_wp2_with fail
        refine (grow_int q (M k).s0.size _ (by omega) (by omega) (by omega)).mono ?_
        rintro e wg ⟨t1, ok, rfl, ht1, hw⟩
        obtain rfl := hw.symm
        cases ok
        case false =>
          go_wp2_with fail
          go_ret
          exact ⟨true, rfl, HA.out⟩
        go_wp2_with fail
        refine (grow_int t1 (M k).s1.size _ (by omega) (by omega) (by omega)).mono ?_
        rintro e wg ⟨t2, ok, rfl, ht2, hw⟩
        obtain rfl := hw.symm
        cases ok
        case false =>
          go_wp2_with fail
          go_ret
          exact ⟨true, rfl, HA.out⟩
        go_wp2_with fail
        refine (grow_int t2 (M k).s2.size _ (by omega) (by omega) (by omega)).mono ?_
        rintro e wg ⟨t3, ok, rfl, ht3, hw⟩
        obtain rfl := hw.symm
        cases ok
        case false =>
          go_wp2_with fail
          go_ret
          exact ⟨true, rfl, HA.out⟩
        go_wp2_with fail
        refine (grow_int t3 (M k).dn _ (by omega) (by omega) (by omega)).mono ?_
        rintro e wg ⟨t4, ok, rfl, ht4, hw⟩
        obtain rfl := hw.symm
        cases ok
        case false =>
          go_wp2_with fail
          go_ret
          exact ⟨true, rfl, HA.out⟩
        by_cases hmany : 131072 < (M k).en
        · go_wp2_with fail
          go_ret
          exact ⟨true, rfl, HA.out⟩
        go_wp2_with fail
        refine (grow_int t4 (8 * ((M k).en : Int)) _ (by omega) (by omega) (by omega)).mono ?_
        rintro e wg ⟨t5, ok, rfl, ht5, hw⟩
        obtain rfl := hw.symm
        cases ok
        case false =>
          go_wp2_with fail
          go_ret
          exact ⟨true, rfl, HA.out⟩
        clear h0 h1 h2 h3 h4 h5 h6 h7 h8 h9 h10 h11 h12 h13 h14
        go_wp2_with fail
        go_loop [3, 4, 7] (fun s okv i => ∃ j r : Nat, j ≤ (M k).en ∧ i = .int .i64 j ∧ s = .int .i64 r ∧ r ≤ 1048576 ∧ okv = .bool true) (fun _ _ i => (M k).en - (intOf i).toNat)
        case atStart => exact ⟨0, t5, Nat.zero_le _, rfl, rfl, ht5, rfl⟩
        case round =>
          obtain ⟨j, r, hj, rfl, rfl, hr20, rfl⟩ := hrel
          by_cases hjl : j < (M k).en
          · exact absurd hjl (by have := H0.out; omega)
          · go_wp2_with fail
            go_roundw
            case rel => exact ⟨k + 1, r, by omega, by go_num, rfl, hr20, HA.out⟩
            case measure => simp [intOf]; omega
      · have HEE : Hid (∀ j, j < (M k).en → entAt wr eb (eo + j * 3) (E k j)) := hee
        have hebz : ∀ j, j < (M k).en → eb < wr.heap.size := fun j hj => World.block_lt_of_cell? _ _ (hee j hj).1
        have HZ : Hid (∀ j, j < (M k).en → eb < wr.heap.size) := hebz
        clear HE hee hebz
        have HA : Hid (Below w.heap.size w (wr.alloc (.cells #[.string (M k).s0, .string (M k).s1, .string (M k).s2, .int .u64 (M k).x3, .int .u64 (M k).x4, .int .u64 (M k).x5, .slice (some ⟨eb, eo, none⟩) (M k).en (M k).ec, .int .u64 (M k).x7, .bool (M k).b8, .int .u64 (M k).x9, .int .u64 (M k).x10, .int .u64 (M k).x11, .int .u64 (M k).x12, .slice (M k).da (M k).dn (M k).dc, .bool (M k).b14] 33))) := HW.out.alloc HW.out.size _
        go_wp2_with fail
        refine (grow_int q (M k).s0.size _ (by omega) (by omega) (by omega)).mono ?_
        rintro e wg ⟨t1, ok, rfl, ht1, hw⟩
        obtain rfl := hw.symm
        cases ok
        case false =>
          go_wp2_with fail
          go_ret
          exact ⟨true, rfl, HA.out⟩
        go_wp2_with fail
        refine (grow_int t1 (M k).s1.size _ (by omega) (by omega) (by omega)).mono ?_
        rintro e wg ⟨t2, ok, rfl, ht2, hw⟩
        obtain rfl := hw.symm
        cases ok
        case false =>
          go_wp2_with fail
          go_ret
          exact ⟨true, rfl, HA.out⟩
        go_wp2_with fail
        refine (grow_int t2 (M k).s2.size _ (by omega) (by omega) (by omega)).mono ?_
        rintro e wg ⟨t3, ok, rfl, ht3, hw⟩
        obtain rfl := hw.symm
        cases ok
        case false =>
          go_wp2_with fail
          go_ret
          exact ⟨true, rfl, HA.out⟩
        go_wp2_with fail
        refine (grow_int t3 (M k).dn _ (by omega) (by omega) (by omega)).mono ?_
        rintro e wg ⟨t4, ok, rfl, ht4, hw⟩
        obtain rfl := hw.symm
        cases ok
        case false =>
          go_wp2_with fail
          go_ret
          exact ⟨true, rfl, HA.out⟩
        by_cases hmany : 131072 < (M k).en
        · go_wp2_with fail
          go_ret
          exact ⟨true, rfl, HA.out⟩
        go_wp2_with fail
        refine (grow_int t4 (8 * ((M k).en : Int)) _ (by omega) (by omega) (by omega)).mono ?_
        rintro e wg ⟨t5, ok, rfl, ht5, hw⟩
        obtain rfl := hw.symm
        cases ok
        case false =>
          go_wp2_with fail
          go_ret
          exact ⟨true, rfl, HA.out⟩
        clear h0 h1 h2 h3 h4 h5 h6 h7 h8 h9 h10 h11 h12 h13 h14
        go_wp2_with fail
        go_loop [3, 4, 7] (fun s okv i => ∃ j r : Nat, j ≤ (M k).en ∧ i = .int .i64 j ∧ s = .int .i64 r ∧ r ≤ 1048576 ∧ okv = .bool true) (fun _ _ i => (M k).en - (intOf i).toNat)
        case atStart => exact ⟨0, t5, Nat.zero_le _, rfl, rfl, ht5, rfl⟩
        case round =>
          obtain ⟨j, r, hj, rfl, rfl, hr20, rfl⟩ := hrel
          by_cases hjl : j < (M k).en
          · obtain ⟨_, _, hc⟩ := HEE.out j hjl
            have hxl := HXL.out j hjl
            have hz := HZ.out j hjl
            go_wp2_with fail
            refine (grow_int r (E k j).xl _ (by omega) (by omega) (by omega)).mono ?_
            rintro e wg ⟨t6, ok, rfl, ht6, hw⟩
            obtain rfl := hw.symm
            cases ok
            case false =>
              go_wp2_with fail
              go_ret
              exact ⟨true, rfl, HA.out⟩
            go_wp2_with fail
            go_round
            case rel => exact ⟨j + 1, t6, by omega, by go_num, rfl, ht6, rfl⟩
            case measure => simp [intOf]; omega
          · go_wp2_with fail
            go_roundw
            case rel => exact ⟨k + 1, r, by omega, by go_num, rfl, hr20, HA.out⟩
            case measure => simp [intOf]; omega
    · have HN : Hid (Below w.heap.size w wr) := hb
      clear hr hb hB hF
      go_wp2
      go_ret
      exact ⟨false, rfl, HN.out⟩

theorem big_any (a : Option Addr) (n c : Nat) (M : Nat → MsgC) (E : Nat → Nat → EntC) (w : World) (hn : n ≤ 1048576) (hB : Bound n M E) (hF : Fits n M) (hr : rowAt w a n M E) :
    Calls Try.prog 7 #[.slice a n c] w fun e w' => BigPost w e w' := by
  by_cases h1 : 131072 < n
  · exact big_many a n c w h1 hn
  · by_cases h0 : n = 0
    · subst h0
      exact big_none a c w
    · obtain ⟨b, o, rfl, h2⟩ := hr.resolve_left h0
      exact big_some b o n c M E w (by omega) hB hF h2
end Go.Proofs.Qxb6603782a
