/-
  The walk of buildRequest (16).
-/
import Derived.Test.Qxb6603779aClone
import Derived.Test.Qxb6603779aAnswer
namespace Go.Proofs.Qxb6603779a
open Go.RowKit

theorem Try.info44 : (Try.prog.info? 44).map (fun i => (i.zero, i.size, i.bytes)) = some (some (.agg #[.int .u32 0, .int .u8 0, .int .u32 0, .slice none 0 0]), 4, 40) := by kernel_rfl
theorem nenil31 (a : Option Addr) (n c : Nat) (w : World) : (binOp .neq 31 (.slice a n c) (.slice none 0 0)).run Try.prog w = .ok (.bool (!a.isNone)) w := run_neq_slice_nil w 31 46 a n c Try.underlying31

theorem make44 (n : Nat) (hn : n ≤ 65536) (w : World) : (Instr.makeSlice 40 (.int .i64 (n : Int)) (.int .i64 (n : Int))).run Try.prog w = .ok (.slice (some ⟨w.heap.size, 0, none⟩) n n) (w.alloc (.cells (zeroAvps n) 44)) := by
  obtain ⟨i, hi, hz, hs, hb⟩ := info_parts Try.info44
  have h := run_make (P := Try.prog) w 40 44 i _ Try.underlying40 hi hz .i64 .i64 (n : Int) (n : Int) (by omega) (by omega) (by rw [hb]; omega) (by omega)
  simp only [Int.toNat_natCast, hs] at h
  exact h

/-- The six cells of a Message. -/
def msgF (f c p h e : Int) (v : Value) : Nat → Value
  | 0 => .int .u8 f
  | 1 => .int .u32 c
  | 2 => .int .u32 p
  | 3 => .int .u32 h
  | 4 => .int .u32 e
  | _ => v

/-- Block b is a Message of the call's own. -/
def msgOwn (w : World) (b : Nat) (f c p h e : Int) (v : Value) : Prop := w.rowIs b 42 6 (msgF f c p h e v)

theorem msgOwn.at {w : World} {b : Nat} {f c p h e : Int} {v : Value} (hm : msgOwn w b f c p h e v) : msgAt w b f c p h e v :=
  ⟨hm.cell (i := 0) (by omega), hm.cell (i := 1) (by omega), hm.cell (i := 2) (by omega), hm.cell (i := 3) (by omega), hm.cell (i := 4) (by omega), hm.cell (i := 5) (by omega)⟩

theorem msgOwn.below {w w' : World} {b : Nat} {f c p h e : Int} {v : Value} (hm : msgOwn w b f c p h e v) (hb : Below w.heap.size w w') : msgOwn w' b f c p h e v := World.rowIs.of_block hm (hb.block b (World.rowIs.lt hm))

theorem msgOwn_alloc (w : World) (f c p h e : Int) (v : Value) : msgOwn (w.alloc (.cells #[.int .u8 f, .int .u32 c, .int .u32 p, .int .u32 h, .int .u32 e, v] 42)) w.heap.size f c p h e v :=
  World.rowIs_alloc w #[.int .u8 f, .int .u32 c, .int .u32 p, .int .u32 h, .int .u32 e, v] 42 _ (fun i hi => by
    match i, hi with
    | 0, _ => rfl
    | 1, _ => rfl
    | 2, _ => rfl
    | 3, _ => rfl
    | 4, _ => rfl
    | 5, _ => rfl)

theorem build_nil (f c p h e : Int) (w : World) :
    Calls Try.prog 16 #[.int .u8 f, .int .u32 c, .int .u32 p, .int .u32 h, .int .u32 e, .slice none 0 0] w fun e' w' => e' = .returned (.pointer (some ⟨w.heap.size, 0, none⟩)) ∧ msgOwn w' w.heap.size f c p h e (.slice none 0 0) ∧ Below w.heap.size w w' := by
  have hnil := nenil31
  go_enter Try.func16, Try.ntmps16
  go_wp2
  go_ret
  exact ⟨rfl, msgOwn_alloc _ _ _ _ _ _ _, (Below.refl _ _).alloc (Nat.le_refl _) _⟩

set_option maxHeartbeats 1000000 in
theorem build_plain (b o n c : Nat) (R : AvpC) (f cm p h e : Int) (w : World) (hn : n ≤ 65536) (hb : b < w.heap.size) (hL : ∀ i, i < n → R.L i ≤ 1048576) (hs : srcAt w b o n R) :
    Calls Try.prog 16 #[.int .u8 f, .int .u32 cm, .int .u32 p, .int .u32 h, .int .u32 e, .slice (some ⟨b, o, none⟩) n c] w fun e' w' => ∃ g, e' = .returned (.pointer (some ⟨g, 0, none⟩)) ∧
      msgOwn w' g f cm p h e (.slice (some ⟨w.heap.size, 0, none⟩) n n) ∧ w.heap.size < g ∧ partAt w' (w.heap.size + 1) w.heap.size 44 n n R ∧ Below w.heap.size w w' := by
  have hmk := make44 n hn
  have hnil := nenil31
  go_enter Try.func16, Try.ntmps16
  go_wp2
  obtain ⟨f0, hf0⟩ := zeroAvps_row w n 44
  go_loopw [14] (fun i wr => ∃ k : Nat, k ≤ n ∧ i = .int .i64 k ∧ partAt wr (w.heap.size + 1) w.heap.size 44 n k R ∧ Below w.heap.size w wr)
    (fun i _ => n - (intOf i).toNat)
  case atStart => exact ⟨0, Nat.zero_le _, rfl, ⟨_, hf0, fun i hi => absurd hi (Nat.not_lt_zero _)⟩, (Below.refl _ _).alloc (Nat.le_refl _) _⟩
  case round =>
    obtain ⟨k, hk, rfl, hp, hB⟩ := hrel
    clear hf0 hmk hnil f0
    by_cases hlt : k < n
    · have hl := hL k hlt
      obtain ⟨a, c', h0, h1, h2, h3, h4, h5⟩ := (hs.below hB) k hlt
      have H4 : Hid (bytesAt wr a (R.L k) c' (R.Z k)) := h4
      have H5 : Hid (a.isNone = R.E k) := h5
      have HP : Hid (partAt wr (w.heap.size + 1) w.heap.size 44 n k R) := hp
      have HB : Hid (Below w.heap.size w wr) := hB
      have hz : w.heap.size < wr.heap.size := hp.lt
      have e1 : (0 : Int) ≤ (k : Int) := by omega
      have e2 : (k : Int) < (n : Int) := by omega
      have hne : ¬ w.heap.size = b := by omega
      have hbz : b < wr.heap.size := by omega
      clear h4 h5 hp hB hL hs
      go_wp2
      go_region_held3 (fun w' => w'.cell? ⟨b, o + k * 4, none⟩ = some (.int .u32 (R.C k)) ∧ w'.cell? ⟨b, o + k * 4 + 1, none⟩ = some (.int .u8 (R.F k)) ∧ w'.cell? ⟨b, o + k * 4 + 2, none⟩ = some (.int .u32 (R.V k)) ∧ w'.cell? ⟨b, o + k * 4 + 3, none⟩ = some (.slice a (R.L k) c')) (go_keep)
        ((go_at_call 23; refine (copy_any _ _ _ (R.Z k) _ hl ?_).mono ?_; exact H4.out; rintro e w1 ⟨a', c1, rfl, hd, hen, hb1⟩; have hb2 := below_of_drew hb1; have k0 := (hb2.cell (p := ⟨b, o + k * 4, none⟩) hbz).trans h0; have k1 := (hb2.cell (p := ⟨b, o + k * 4 + 1, none⟩) hbz).trans h1; have k2 := (hb2.cell (p := ⟨b, o + k * 4 + 2, none⟩) hbz).trans h2; have k3 := (hb2.cell (p := ⟨b, o + k * 4 + 3, none⟩) hbz).trans h3; have hp1 := HP.out.below hb2; obtain ⟨⟨v0, v1, v2, v3, d0, d1, d2, d3⟩, f0, f1, f2, f3⟩ := hp1.room hlt; have HP1 : Hid (partAt w1 (w.heap.size + 1) w.heap.size 44 n k R) := hp1; have HD : Hid (ownB w1 wr.drew.heap.size a' (R.L k) c1 (R.Z k)) := hd; have HE : Hid (a'.isNone = a.isNone) := hen; have HB1 : Hid (Below wr.heap.size wr w1) := hb2; clear hp1 hd hen hb1 hb2))
      have RR : Hid (partAt (putAvp w1 w.heap.size (k * 4) (.int .u32 (R.C k)) (.int .u8 (R.F k)) (.int .u32 (R.V k)) (.slice a' (R.L k) c1)) (w.heap.size + 1) w.heap.size 44 n (k + 1) R ∧ Below w.heap.size w (putAvp w1 w.heap.size (k * 4) (.int .u32 (R.C k)) (.int .u8 (R.F k)) (.int .u32 (R.V k)) (.slice a' (R.L k) c1))) :=
        ⟨HP1.out.step (by omega) (HD.out.mono hz) (HE.out.trans H5.out), below_putAvp (HB.out.trans (HB1.out.mono (by omega))) (Nat.le_refl _)⟩
      clear k0 k1 k2 k3 d0 d1 d2 d3 f0 f1 f2 f3 HP1 HD HE HB1 HP HB H4 H5 h0 h1 h2 h3
      go_wp2
      go_roundw
      case rel => exact ⟨k + 1, by omega, by go_num, RR.out.1, RR.out.2⟩
      case measure => simp [intOf]; omega
    · have : k = n := by omega
      subst this
      have HP : Hid (partAt wr (w.heap.size + 1) w.heap.size 44 k k R) := hp
      have HB : Hid (Below w.heap.size w wr) := hB
      have hz : w.heap.size < wr.heap.size := hp.lt
      clear hp hB hs hL
      go_wp2
      go_ret
      exact ⟨wr.heap.size, rfl, msgOwn_alloc _ _ _ _ _ _ _, hz, HP.out.below ((Below.refl _ _).alloc (Nat.le_refl _) _), HB.out.alloc (by omega) _⟩

/-- What buildRequest gives. -/
def BuildPost (w : World) (n : Nat) (R : AvpC) (en : Bool) (f c p h e : Int) (e' : Ending) (w' : World) : Prop :=
  ∃ g a' c', e' = .returned (.pointer (some ⟨g, 0, none⟩)) ∧ msgOwn w' g f c p h e (.slice a' n c') ∧ w.heap.size ≤ g ∧ avpsOwn w' w.heap.size 44 a' n c' R ∧ a'.isNone = en ∧ Below w.heap.size w w'

theorem build_any (a : Option Addr) (n c lo : Nat) (R : AvpC) (f cm p h e : Int) (w : World) (hn : n ≤ 65536) (hL : ∀ i, i < n → R.L i ≤ 1048576) (ha : avpsOwn w lo 46 a n c R) :
    Calls Try.prog 16 #[.int .u8 f, .int .u32 cm, .int .u32 p, .int .u32 h, .int .u32 e, .slice a n c] w fun e' w' => BuildPost w n R a.isNone f cm p h e e' w' := by
  rcases ha with ⟨rfl, rfl, rfl⟩ | ⟨g, rfl, rfl, hlo, hp⟩
  · refine (build_nil f cm p h e w).mono ?_
    rintro e' w' ⟨rfl, h1, h2⟩
    exact ⟨w.heap.size, none, 0, rfl, h1, Nat.le_refl _, .inl ⟨rfl, rfl, rfl⟩, rfl, h2⟩
  · refine (build_plain g 0 c c R f cm p h e w hn hp.lt hL hp.src).mono ?_
    rintro e' w' ⟨gm, rfl, h1, h2, h3, h4⟩
    exact ⟨gm, some ⟨w.heap.size, 0, none⟩, c, rfl, h1, by omega, .inr ⟨_, rfl, rfl, Nat.le_refl _, h3⟩, rfl, h4⟩

theorem answer_own (b : Nat) (f c p h e : Int) (v : Value) (w : World) (hm : msgOwn w b f c p h e v) :
    Calls Try.prog 17 #[.pointer (some ⟨b, 0, none⟩)] w fun e' w' => e' = .returned (.pointer (some ⟨w.heap.size, 0, none⟩)) ∧
      msgOwn w' w.heap.size (pbit f) c p h e (.slice none 0 0) ∧ Below w.heap.size w w' ∧ w'.heap.size = w.heap.size + 1 := by
  refine (answer_any b f c p h e v w hm.at).mono ?_
  rintro e' w' ⟨rfl, rfl⟩
  exact ⟨rfl, (msgOwn_alloc w (pbit f) c p h e _ : msgOwn _ _ _ _ _ _ _ _), ((Below.refl _ _).alloc (Nat.le_refl _) _).drew, by simp⟩
end Go.Proofs.Qxb6603779a
