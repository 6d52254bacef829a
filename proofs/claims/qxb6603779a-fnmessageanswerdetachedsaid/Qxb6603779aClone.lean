/-
  The walk of cloneAVPIns (15).
-/
import Derived.Test.Qxb6603779aAvps
import Derived.Deep.RegionHeld3
namespace Go.Proofs.Qxb6603779a
open Go.RowKit

theorem Try.info46 : (Try.prog.info? 46).map (fun i => (i.zero, i.size, i.bytes)) = some (some (.agg #[.int .u32 0, .int .u8 0, .int .u32 0, .slice none 0 0]), 4, 40) := by kernel_rfl
theorem eqnil31 (a : Option Addr) (n c : Nat) (w : World) : (binOp .eql 31 (.slice a n c) (.slice none 0 0)).run Try.prog w = .ok (.bool a.isNone) w := Lib.run_eql_slice_nil w 31 46 a n c 0 0 Try.underlying31

/-- What make lays for n AVPs. -/
def zeroAvps (n : Nat) : Array Value := madeCells #[.int .u32 0, .int .u8 0, .int .u32 0, .slice none 0 0] (n * 4)

theorem make46 (n : Nat) (hn : n ≤ 65536) (w : World) : (Instr.makeSlice 31 (.int .i64 (n : Int)) (.int .i64 (n : Int))).run Try.prog w = .ok (.slice (some ⟨w.heap.size, 0, none⟩) n n) (w.alloc (.cells (zeroAvps n) 46)) := by
  obtain ⟨i, hi, hz, hs, hb⟩ := info_parts Try.info46
  have h := run_make (P := Try.prog) w 31 46 i _ Try.underlying31 hi hz .i64 .i64 (n : Int) (n : Int) (by omega) (by omega) (by rw [hb]; omega) (by omega)
  simp only [Int.toNat_natCast, hs] at h
  exact h

theorem zeroAvps_row (w : World) (n t : Nat) : ∃ f, (w.alloc (.cells (zeroAvps n) t)).rowIs w.heap.size t (n * 4) f := by
  have h := World.rowIs_alloc w (zeroAvps n) t (fun i => (zeroAvps n)[i]!) (fun i hi => by simp [hi])
  rw [show (zeroAvps n).size = n * 4 from size_madeCells _ _] at h
  exact ⟨_, h⟩

theorem clone_nil (w : World) : Calls Try.prog 15 #[.slice none 0 0] w fun e w' => e = .returned (.slice none 0 0) ∧ w' = w := by
  have hnil := eqnil31
  go_enter Try.func15, Try.ntmps15
  go_wp2
  go_ret
  exact ⟨rfl, rfl⟩

/-- What cloneAVPIns leaves. -/
def Cloned (w w' : World) (n : Nat) (R : AvpC) : Prop := partAt w' (w.heap.size + 1) w.heap.size 46 n n R ∧ Below w.heap.size w w'

set_option maxHeartbeats 1000000 in
theorem clone_plain (b o n c : Nat) (R : AvpC) (w : World) (hn : n ≤ 65536) (hb : b < w.heap.size) (hL : ∀ i, i < n → R.L i ≤ 1048576) (hs : srcAt w b o n R) :
    Calls Try.prog 15 #[.slice (some ⟨b, o, none⟩) n c] w fun e w' => e = .returned (.slice (some ⟨w.heap.size, 0, none⟩) n n) ∧ Cloned w w' n R := by
  have hmk := make46 n hn
  have hnil := eqnil31
  go_enter Try.func15, Try.ntmps15
  go_wp2
  obtain ⟨f0, hf0⟩ := zeroAvps_row w n 46
  go_loopw [4] (fun i wr => ∃ k : Nat, k ≤ n ∧ i = .int .i64 k ∧ partAt wr (w.heap.size + 1) w.heap.size 46 n k R ∧ Below w.heap.size w wr)
    (fun i _ => n - (intOf i).toNat)
  case atStart => exact ⟨0, Nat.zero_le _, rfl, ⟨_, hf0, fun i hi => absurd hi (Nat.not_lt_zero _)⟩, (Below.refl _ _).alloc (Nat.le_refl _) _⟩
  case round =>
    obtain ⟨k, hk, rfl, hp, hB⟩ := hrel
    clear hf0 hmk hnil f0
    by_cases hlt : k < n
    · have hl := hL k hlt
      obtain ⟨a, c', h0, h1, h2, h3, h4, h5⟩ := (hs.below hB) k hlt
      have H4 : Hid (bytesAt wr a (R.L k) c' (R.Z k)) := h4
      have H5 : Hid (a.isNone = R.E k) := h5
      have HP : Hid (partAt wr (w.heap.size + 1) w.heap.size 46 n k R) := hp
      have HB : Hid (Below w.heap.size w wr) := hB
      have hz : w.heap.size < wr.heap.size := hp.lt
      have e1 : (0 : Int) ≤ (k : Int) := by omega
      have e2 : (k : Int) < (n : Int) := by omega
      have hne : ¬ w.heap.size = b := by omega
      have hbz : b < wr.heap.size := by omega
      clear h4 h5 hp hB hL hs
      go_wp2
      go_region_held3 (fun w' => w'.cell? ⟨b, o + k * 4, none⟩ = some (.int .u32 (R.C k)) ∧ w'.cell? ⟨b, o + k * 4 + 1, none⟩ = some (.int .u8 (R.F k)) ∧ w'.cell? ⟨b, o + k * 4 + 2, none⟩ = some (.int .u32 (R.V k)) ∧ w'.cell? ⟨b, o + k * 4 + 3, none⟩ = some (.slice a (R.L k) c')) (go_keep)
        ((go_at_call 23; refine (copy_any _ _ _ (R.Z k) _ hl ?_).mono ?_; exact H4.out; rintro e w1 ⟨a', c1, rfl, hd, hen, hb1⟩; have hb2 := below_of_drew hb1; have k0 := (hb2.cell (p := ⟨b, o + k * 4, none⟩) hbz).trans h0; have k1 := (hb2.cell (p := ⟨b, o + k * 4 + 1, none⟩) hbz).trans h1; have k2 := (hb2.cell (p := ⟨b, o + k * 4 + 2, none⟩) hbz).trans h2; have k3 := (hb2.cell (p := ⟨b, o + k * 4 + 3, none⟩) hbz).trans h3; have hp1 := HP.out.below hb2; obtain ⟨⟨v0, v1, v2, v3, d0, d1, d2, d3⟩, f0, f1, f2, f3⟩ := hp1.room hlt; have HP1 : Hid (partAt w1 (w.heap.size + 1) w.heap.size 46 n k R) := hp1; have HD : Hid (ownB w1 wr.drew.heap.size a' (R.L k) c1 (R.Z k)) := hd; have HE : Hid (a'.isNone = a.isNone) := hen; have HB1 : Hid (Below wr.heap.size wr w1) := hb2; clear hp1 hd hen hb1 hb2))
      have RR : Hid (partAt (putAvp w1 w.heap.size (k * 4) (.int .u32 (R.C k)) (.int .u8 (R.F k)) (.int .u32 (R.V k)) (.slice a' (R.L k) c1)) (w.heap.size + 1) w.heap.size 46 n (k + 1) R ∧ Below w.heap.size w (putAvp w1 w.heap.size (k * 4) (.int .u32 (R.C k)) (.int .u8 (R.F k)) (.int .u32 (R.V k)) (.slice a' (R.L k) c1))) :=
        ⟨HP1.out.step (by omega) (HD.out.mono hz) (HE.out.trans H5.out), below_putAvp (HB.out.trans (HB1.out.mono (by omega))) (Nat.le_refl _)⟩
      clear k0 k1 k2 k3 d0 d1 d2 d3 f0 f1 f2 f3 HP1 HD HE HB1 HP HB H4 H5 h0 h1 h2 h3
      go_wp2
      go_roundw
      case rel => exact ⟨k + 1, by omega, by go_num, RR.out.1, RR.out.2⟩
      case measure => simp [intOf]; omega
    · have : k = n := by omega
      subst this
      go_wp2
      go_ret
      exact ⟨rfl, hp, hB⟩

theorem mka0 (w : World) : (Instr.makeSlice 31 (.int .i64 0) (.int .i64 0)).run Try.prog w = .ok (.slice (some ⟨w.heap.size, 0, none⟩) 0 0) (w.alloc (.cells #[] 46)) := by kernel_rfl

set_option maxHeartbeats 400000 in
theorem clone_empty (x : Addr) (c : Nat) (R : AvpC) (w : World) :
    Calls Try.prog 15 #[.slice (some x) 0 c] w fun e w' => e = .returned (.slice (some ⟨w.heap.size, 0, none⟩) 0 0) ∧ Cloned w w' 0 R := by
  have hmk := mka0
  have hnil := eqnil31
  go_enter Try.func15, Try.ntmps15
  go_wp2
  refine wp_loop_rounds 1 ?_
  rw [rounds_succ]
  go_wp2
  go_ret
  exact ⟨rfl, ⟨fun _ => undef, World.rowIs_alloc w #[] 46 _ (fun i hi => absurd hi (Nat.not_lt_zero _)), fun i hi => absurd hi (Nat.not_lt_zero _)⟩, (Below.refl _ _).alloc (Nat.le_refl _) _⟩

/-- A slice of AVPs that came in: nil, empty, or a row with content R. -/
def avpsIn (w : World) (a : Option Addr) (n c : Nat) (R : AvpC) : Prop :=
  (a = none ∧ n = 0 ∧ c = 0) ∨ ∃ x, a = some x ∧ (n = 0 ∨ ∃ b o, x = ⟨b, o, none⟩ ∧ srcAt w b o n R)

/-- A slice of AVPs of the call's own. -/
def avpsOwn (w : World) (lo t : Nat) (a : Option Addr) (n c : Nat) (R : AvpC) : Prop :=
  (a = none ∧ n = 0 ∧ c = 0) ∨ ∃ g, a = some ⟨g, 0, none⟩ ∧ c = n ∧ lo ≤ g ∧ partAt w (g + 1) g t n n R

/-- What cloneAVPIns gives. -/
def ClonePost (w : World) (n : Nat) (R : AvpC) (en : Bool) (e : Ending) (w' : World) : Prop :=
  ∃ a' c', e = .returned (.slice a' n c') ∧ avpsOwn w' w.heap.size 46 a' n c' R ∧ a'.isNone = en ∧ Below w.heap.size w w'

theorem clone_any (a : Option Addr) (n c : Nat) (R : AvpC) (w : World) (hn : n ≤ 65536) (hL : ∀ i, i < n → R.L i ≤ 1048576) (h : avpsIn w a n c R) :
    Calls Try.prog 15 #[.slice a n c] w fun e w' => ClonePost w n R a.isNone e w' := by
  rcases h with ⟨rfl, rfl, rfl⟩ | ⟨x, rfl, h⟩
  · refine (clone_nil w).mono ?_
    rintro e w' ⟨rfl, rfl⟩
    exact ⟨none, 0, rfl, .inl ⟨rfl, rfl, rfl⟩, rfl, Below.refl _ _⟩
  · by_cases h0 : n = 0
    · subst h0
      refine (clone_empty x c R w).mono ?_
      rintro e w' ⟨rfl, h1, h2⟩
      exact ⟨some ⟨w.heap.size, 0, none⟩, 0, rfl, .inr ⟨_, rfl, rfl, Nat.le_refl _, h1⟩, rfl, h2⟩
    · obtain ⟨b, o, rfl, hs⟩ := h.resolve_left h0
      obtain ⟨_, _, hc, _⟩ := hs 0 (by omega)
      refine (clone_plain b o n c R w hn (World.block_lt_of_cell? _ _ hc) hL hs).mono ?_
      rintro e w' ⟨rfl, h1, h2⟩
      exact ⟨some ⟨w.heap.size, 0, none⟩, n, rfl, .inr ⟨_, rfl, rfl, Nat.le_refl _, h1⟩, rfl, h2⟩
end Go.Proofs.Qxb6603779a
