/-
  The walk of zzToRaft (9).
-/
import Derived.Test.Qxb6603782aRaftParts
import Derived.Laws.MakeOwn
namespace Go.Proofs.Qxb6603782a
open Go.RowKit

theorem Try.info47 : (Try.prog.info? 47).map (fun i => (i.zero, i.size, i.bytes)) = some (some (.agg #[.string ByteArray.empty, .string ByteArray.empty, .string ByteArray.empty, .int .u64 0, .int .u64 0, .int .u64 0, .slice none 0 0, .int .u64 0, .bool false, .int .u64 0, .int .u64 0, .int .u64 0, .int .u64 0, .slice none 0 0, .bool false]), 15, 176) := by kernel_rfl
theorem Try.info44 : (Try.prog.info? 44).map (fun i => (i.zero, i.size, i.bytes)) = some (some (.agg #[.int .u64 0, .int .u64 0, .slice none 0 0]), 3, 40) := by kernel_rfl

theorem eqnil22 (a : Option Addr) (n c : Nat) (w : World) : (binOp .eql 22 (.slice a n c) (.slice none 0 0)).run Try.prog w = .ok (.bool a.isNone) w := Lib.run_eql_slice_nil w 22 33 a n c 0 0 Try.underlying22
theorem nenil30 (a : Option Addr) (n c : Nat) (w : World) : (binOp .neq 30 (.slice a n c) (.slice none 0 0)).run Try.prog w = .ok (.bool (!a.isNone)) w := run_neq_slice_nil w 30 39 a n c Try.underlying30

/-- What make lays. -/
def zeroMsgs (n : Nat) : Array Value := madeCells #[.string ByteArray.empty, .string ByteArray.empty, .string ByteArray.empty, .int .u64 0, .int .u64 0, .int .u64 0, .slice none 0 0, .int .u64 0, .bool false, .int .u64 0, .int .u64 0, .int .u64 0, .int .u64 0, .slice none 0 0, .bool false] (n * 15)
def zeroEnts (n : Nat) : Array Value := madeCells #[.int .u64 0, .int .u64 0, .slice none 0 0] (n * 3)

theorem make47 (n : Nat) (hn : n ≤ 1048576) (w : World) : (Instr.makeSlice 25 (.int .i64 (n : Int)) (.int .i64 (n : Int))).run Try.prog w = .ok (.slice (some ⟨w.heap.size, 0, none⟩) n n) (w.alloc (.cells (zeroMsgs n) 47)) := by
  obtain ⟨i, hi, hz, hs, hb⟩ := info_parts Try.info47
  have h := run_make (P := Try.prog) w 25 47 i _ Try.underlying25 hi hz .i64 .i64 (n : Int) (n : Int) (by omega) (by omega) (by rw [hb]; omega) (by omega)
  simp only [Int.toNat_natCast, hs] at h
  exact h

theorem make44 (n : Nat) (hn : n ≤ 1048576) (w : World) : (Instr.makeSlice 42 (.int .i64 (n : Int)) (.int .i64 (n : Int))).run Try.prog w = .ok (.slice (some ⟨w.heap.size, 0, none⟩) n n) (w.alloc (.cells (zeroEnts n) 44)) := by
  obtain ⟨i, hi, hz, hs, hb⟩ := info_parts Try.info44
  have h := run_make (P := Try.prog) w 42 44 i _ Try.underlying42 hi hz .i64 .i64 (n : Int) (n : Int) (by omega) (by omega) (by rw [hb]; omega) (by omega)
  simp only [Int.toNat_natCast, hs] at h
  exact h

theorem zeroMsgs_row (w : World) (n : Nat) : ∃ f, (w.alloc (.cells (zeroMsgs n) 47)).rowIs w.heap.size 47 (n * 15) f := by
  have h := World.rowIs_alloc w (zeroMsgs n) 47 (fun i => (zeroMsgs n)[i]!) (fun i hi => by simp [hi])
  rw [show (zeroMsgs n).size = n * 15 from size_madeCells _ _] at h
  exact ⟨_, h⟩

theorem zeroEnts_row (w : World) (n : Nat) : ∃ f, (w.alloc (.cells (zeroEnts n) 44)).rowIs w.heap.size 44 (n * 3) f := by
  have h := World.rowIs_alloc w (zeroEnts n) 44 (fun i => (zeroEnts n)[i]!) (fun i hi => by simp [hi])
  rw [show (zeroEnts n).size = n * 3 from size_madeCells _ _] at h
  exact ⟨_, h⟩

theorem raft_nil (w : World) : Calls Try.prog 9 #[.slice none 0 0] w fun e w' => e = .returned (.slice none 0 0) ∧ w' = w := by
  have hnil := eqnil22
  go_enter Try.func9, Try.ntmps9
  go_wp2
  go_ret
  exact ⟨rfl, rfl⟩

/-- What the round's store wants to know of the row's cells. -/
def RoomAt (w : World) (g p : Nat) : Prop := ∃ v : Nat → Value, (∀ d, d < 15 → w.cell? ⟨g, p + d, none⟩ = some (v d)) ∧ ∀ d, w.frozen? ⟨g, p + d, none⟩ = false

theorem outPart.room {w : World} {lo g n k i : Nat} {M : Nat → MsgC} {E : Nat → Nat → EntC} (h : outPart w lo g n k M E) (hi : i < n) : RoomAt w g (i * 15) := by
  obtain ⟨f, hr, _⟩ := h
  exact ⟨fun d => f (i * 15 + d), fun d hd => hr.cell (by omega), fun d => hr.frozen _⟩

theorem copy_at (wr : World) (m : MsgC) {x : Addr} (hea : m.ea = some x) :
    msgAt (wr.alloc (.cells #[.string m.s0, .string m.s1, .string m.s2, .int .u64 m.x3, .int .u64 m.x4, .int .u64 m.x5, .slice (some x) m.en m.ec, .int .u64 m.x7, .bool m.b8, .int .u64 m.x9, .int .u64 m.x10, .int .u64 m.x11, .int .u64 m.x12, .slice m.da m.dn m.dc, .bool m.b14] 33)) wr.heap.size 0 m := by
  unfold msgAt
  rw [hea]
  have key : ∀ (c : Array Value) (d : Nat), (wr.alloc (.cells c 33)).cell? ⟨wr.heap.size, d, none⟩ = c[d]? := fun c d => World.cell?_alloc_at c 33 _ d rfl
  exact ⟨key _ _, key _ _, key _ _, key _ _, key _ _, key _ _, key _ _, key _ _, key _ _, key _ _, key _ _, key _ _, key _ _, key _ _, key _ _⟩

theorem entPart.room {w : World} {g n k j : Nat} {E : Nat → EntC} (h : entPart w g n k E) (hj : j < n) : ∃ (v : Nat → Value), w.cell? ⟨g, j * 3, none⟩ = some (v 0) ∧ w.cell? ⟨g, j * 3 + 1, none⟩ = some (v 1) ∧ w.cell? ⟨g, j * 3 + 2, none⟩ = some (v 2) ∧
    w.frozen? ⟨g, j * 3, none⟩ = false ∧ w.frozen? ⟨g, j * 3 + 1, none⟩ = false ∧ w.frozen? ⟨g, j * 3 + 2, none⟩ = false := by
  obtain ⟨f, hr, _⟩ := h
  exact ⟨fun d => f (j * 3 + d), hr.cell (by omega), hr.cell (by omega), hr.cell (by omega), hr.frozen _, hr.frozen _, hr.frozen _⟩

set_option maxRecDepth 20000 in
set_option maxHeartbeats 4000000 in
theorem raft_plain (b o n c : Nat) (M : Nat → MsgC) (E : Nat → Nat → EntC) (w : World) (hn : n ≤ 1048576) (hB : Bound n M E) (hnl : ∀ i, i < n → (M i).ea = none → (M i).en = 0)
    (hr : ∀ i, i < n → msgAt w b (o + i * 15) (M i) ∧ entsAt w (M i).ea (M i).en (E i)) :
    Calls Try.prog 9 #[.slice (some ⟨b, o, none⟩) n c] w fun e w' => e = .returned (.slice (some ⟨w.heap.size, 0, none⟩) n n) ∧ outPart w' (w.heap.size + 1) w.heap.size n n M E ∧ Below w.heap.size w w' := by
  have hmk := make47 n hn
  have hnil := eqnil22
  go_enter Try.func9, Try.ntmps9
  go_wp2
  obtain ⟨f0, hf0⟩ := zeroMsgs_row w n
  go_loopw [4] (fun i wr => ∃ k : Nat, k ≤ n ∧ i = .int .i64 k ∧ outPart wr (w.heap.size + 1) w.heap.size n k M E ∧ Below w.heap.size w wr) (fun i _ => n - (intOf i).toNat)
  case atStart => exact ⟨0, Nat.zero_le _, rfl, ⟨_, hf0, fun i hi => absurd hi (Nat.not_lt_zero _)⟩, (Below.refl _ _).alloc (Nat.le_refl _) _⟩
  case round =>
    obtain ⟨k, hk, rfl, ho, hb⟩ := hrel
    clear hmk hnil hf0 f0
    by_cases hlt : k < n
    · have hen := (hB k hlt).1
      obtain ⟨h0, h1, h2, h3, h4, h5, h6, h7, h8, h9, h10, h11, h12, h13, h14⟩ := (hr k hlt).1.below hb
      have HE : Hid (entsAt w (M k).ea (M k).en (E k)) := (hr k hlt).2
      have HW : Hid (Below w.heap.size w wr) := hb
      have HO : Hid (outPart wr (w.heap.size + 1) w.heap.size n k M E) := ho
      have hz : w.heap.size < wr.heap.size := ho.lt
      have HNL : Hid ((M k).ea = none → (M k).en = 0) := hnl k hlt
      obtain ⟨v, hv, hfz⟩ := ho.room hlt
      have hnil := nenil30
      clear hb ho hr hB hnl
      cases hea : (M k).ea with
      | none =>
        have c0 := hv 0 (by omega)
        have c1 := hv 1 (by omega)
        have c2 := hv 2 (by omega)
        have c3 := hv 3 (by omega)
        have c4 := hv 4 (by omega)
        have c5 := hv 5 (by omega)
        have c6 := hv 6 (by omega)
        have c7 := hv 7 (by omega)
        have c8 := hv 8 (by omega)
        have c9 := hv 9 (by omega)
        have c10 := hv 10 (by omega)
        have c11 := hv 11 (by omega)
        have c12 := hv 12 (by omega)
        have c13 := hv 13 (by omega)
        have c14 := hv 14 (by omega)
        have z0 := hfz 0
        have z1 := hfz 1
        have z2 := hfz 2
        have z3 := hfz 3
        have z4 := hfz 4
        have z5 := hfz 5
        have z6 := hfz 6
        have z7 := hfz 7
        have z8 := hfz 8
        have z9 := hfz 9
        have z10 := hfz 10
        have z11 := hfz 11
        have z12 := hfz 12
        have z13 := hfz 13
        have z14 := hfz 14
        simp only [Nat.add_zero] at c0 z0
        clear hv hfz
        have RR : Hid (outPart (putCells wr w.heap.size (k * 15) (msgCells { M k with ea := none, en := 0, ec := 0 })) (w.heap.size + 1) w.heap.size n (k + 1) M E ∧ Below w.heap.size w (putCells wr w.heap.size (k * 15) (msgCells { M k with ea := none, en := 0, ec := 0 })) ∧ w.heap.size ≤ (putCells wr w.heap.size (k * 15) (msgCells { M k with ea := none, en := 0, ec := 0 })).heap.size) :=
          ⟨HO.out.step (by omega) { M k with ea := none, en := 0, ec := 0 } (HNL.out hea).symm (.inl rfl), below_put (Nat.le_refl _) _ _ _ HW.out, by rw [size_put]; omega⟩
        clear HO HW HE HNL
        go_wp2
        go_roundw
        case rel => exact ⟨k + 1, by omega, by go_num, RR.out.1.keep ((Below.refl _ _).alloc (Nat.le_refl _) _), RR.out.2.1.alloc RR.out.2.2 _⟩
        case measure => simp [intOf]; omega
      | some x =>
        have hmk44 := make44 (M k).en hen
        clear hv hfz HNL
        rcases HE.out with he0 | ⟨eb, eo, hx, hee⟩
        · have H0 : Hid ((M k).en = 0) := he0
          clear HE he0
          go_wp2
          obtain ⟨wa, hwa⟩ : ∃ wa : World, wa = wr.alloc (.cells #[.string (M k).s0, .string (M k).s1, .string (M k).s2, .int .u64 (M k).x3, .int .u64 (M k).x4, .int .u64 (M k).x5, .slice (some x) (M k).en (M k).ec, .int .u64 (M k).x7, .bool (M k).b8, .int .u64 (M k).x9, .int .u64 (M k).x10, .int .u64 (M k).x11, .int .u64 (M k).x12, .slice (M k).da (M k).dn (M k).dc, .bool (M k).b14] 33) := ⟨_, rfl⟩
          have A1 : msgAt wa wr.heap.size 0 (M k) := by rw [hwa]; exact copy_at wr (M k) hea
          have A2 : outPart wa (w.heap.size + 1) w.heap.size n k M E := by rw [hwa]; exact HO.out.keep ((Below.refl _ _).alloc (Nat.le_refl _) _)
          have A3 : Below w.heap.size w wa := by rw [hwa]; exact HW.out.alloc HW.out.size _
          have A4 : wa.heap.size = wr.heap.size + 1 := by rw [hwa]; simp
          have A5 : entPart (wa.alloc (.cells (zeroEnts (M k).en) 44)) wa.heap.size (M k).en 0 (E k) := by
            obtain ⟨f, hf⟩ := zeroEnts_row wa (M k).en
            exact ⟨f, hf, fun j hj => absurd hj (Nat.not_lt_zero _)⟩
          rw [← hwa]
          obtain ⟨P, hP⟩ : ∃ P, P = wr.heap.size := ⟨_, rfl⟩
          rw [A4] at A5
          rw [← hP] at A1 A4 A5 hz ⊢
          have HA : Hid (msgAt wa P 0 (M k) ∧ outPart wa (w.heap.size + 1) w.heap.size n k M E ∧ Below w.heap.size w wa ∧ wa.heap.size = P + 1 ∧ entPart (wa.alloc (.cells (zeroEnts (M k).en) 44)) (P + 1) (M k).en 0 (E k)) := ⟨A1, A2, A3, A4, A5⟩
          clear h0 h1 h2 h3 h4 h5 h6 h7 h8 h9 h10 h11 h12 h13 h14 HO HW hmk44 hnil A1 A2 A3 A4 A5 hwa hP
          go_loopw [7] (fun i wi => ∃ j : Nat, j ≤ (M k).en ∧ i = .int .i64 j ∧ entPart wi (P + 1) (M k).en j (E k) ∧ Below (P + 1) wa wi) (fun i _ => (M k).en - (intOf i).toNat)
          case atStart => exact ⟨0, Nat.zero_le _, rfl, HA.out.2.2.2.2, (Below.refl _ _).alloc (by rw [HA.out.2.2.2.1]; exact Nat.le_refl _) _⟩
          case round =>
            obtain ⟨j, hj, rfl, hep, hbj⟩ := hrel
            have e6 : wr.cell? ⟨P, 6, none⟩ = some (.slice (some x) (M k).en (M k).ec) := by
              have := (hbj.cell (p := ⟨P, 0 + 6, none⟩) (by show P < P + 1; omega)).trans HA.out.1.2.2.2.2.2.2.1
              rw [hea] at this
              simpa using this
            by_cases hjl : j < (M k).en
            · exact absurd hjl (by have := H0.out; omega)
            · obtain rfl : j = (M k).en := by omega
              obtain ⟨a1, a2, a3, a4, a5⟩ := HA.out
              have hb2 : Below wa.heap.size wa wr := by rw [a4]; exact hbj
              have ho2 := a2.keep hb2
              obtain ⟨v, hv, hfz⟩ := ho2.room hlt
              obtain ⟨e0, e1, e2, e3, e4, e5, e6, e7, e8, e9, e10, e11, e12, e13, e14⟩ := a1.below hb2
              rw [hea] at e6
              simp only [Nat.zero_add] at e0 e1 e2 e3 e4 e5 e6 e7 e8 e9 e10 e11 e12 e13 e14
              have c0 := hv 0 (by omega)
              have c1 := hv 1 (by omega)
              have c2 := hv 2 (by omega)
              have c3 := hv 3 (by omega)
              have c4 := hv 4 (by omega)
              have c5 := hv 5 (by omega)
              have c6 := hv 6 (by omega)
              have c7 := hv 7 (by omega)
              have c8 := hv 8 (by omega)
              have c9 := hv 9 (by omega)
              have c10 := hv 10 (by omega)
              have c11 := hv 11 (by omega)
              have c12 := hv 12 (by omega)
              have c13 := hv 13 (by omega)
              have c14 := hv 14 (by omega)
              have z0 := hfz 0
              have z1 := hfz 1
              have z2 := hfz 2
              have z3 := hfz 3
              have z4 := hfz 4
              have z5 := hfz 5
              have z6 := hfz 6
              have z7 := hfz 7
              have z8 := hfz 8
              have z9 := hfz 9
              have z10 := hfz 10
              have z11 := hfz 11
              have z12 := hfz 12
              have z13 := hfz 13
              have z14 := hfz 14
              simp only [Nat.add_zero] at c0 z0
              clear hv hfz
              have RR : Hid (outPart (putCells wr w.heap.size (k * 15) (msgCells { M k with ea := some ⟨P + 1, 0, none⟩, en := (M k).en, ec := (M k).en })) (w.heap.size + 1) w.heap.size n (k + 1) M E ∧ Below w.heap.size w (putCells wr w.heap.size (k * 15) (msgCells { M k with ea := some ⟨P + 1, 0, none⟩, en := (M k).en, ec := (M k).en }))) :=
                ⟨ho2.step (by omega) { M k with ea := some ⟨P + 1, 0, none⟩, en := (M k).en, ec := (M k).en } rfl (.inr ⟨P + 1, rfl, by omega, hep⟩), below_put (Nat.le_refl _) _ _ _ (a3.trans (hb2.mono a3.size))⟩
              clear a1 a2 a3 a4 a5 hb2 ho2 hep hbj HA
              go_wp2
              go_roundw
              case rel => exact ⟨k + 1, by omega, by go_num, RR.out.1, RR.out.2⟩
              case measure => simp [intOf]; omega
        · obtain rfl : x = ⟨eb, eo, none⟩ := by rw [hea] at hx; exact Option.some.inj hx
          have HEE : Hid (∀ j, j < (M k).en → entAt w eb (eo + j * 3) (E k j)) := hee
          clear HE hx hee
          go_wp2
          obtain ⟨wa, hwa⟩ : ∃ wa : World, wa = wr.alloc (.cells #[.string (M k).s0, .string (M k).s1, .string (M k).s2, .int .u64 (M k).x3, .int .u64 (M k).x4, .int .u64 (M k).x5, .slice (some ⟨eb, eo, none⟩) (M k).en (M k).ec, .int .u64 (M k).x7, .bool (M k).b8, .int .u64 (M k).x9, .int .u64 (M k).x10, .int .u64 (M k).x11, .int .u64 (M k).x12, .slice (M k).da (M k).dn (M k).dc, .bool (M k).b14] 33) := ⟨_, rfl⟩
          have A1 : msgAt wa wr.heap.size 0 (M k) := by rw [hwa]; exact copy_at wr (M k) hea
          have A2 : outPart wa (w.heap.size + 1) w.heap.size n k M E := by rw [hwa]; exact HO.out.keep ((Below.refl _ _).alloc (Nat.le_refl _) _)
          have A3 : Below w.heap.size w wa := by rw [hwa]; exact HW.out.alloc HW.out.size _
          have A4 : wa.heap.size = wr.heap.size + 1 := by rw [hwa]; simp
          have A5 : entPart (wa.alloc (.cells (zeroEnts (M k).en) 44)) wa.heap.size (M k).en 0 (E k) := by
            obtain ⟨f, hf⟩ := zeroEnts_row wa (M k).en
            exact ⟨f, hf, fun j hj => absurd hj (Nat.not_lt_zero _)⟩
          rw [← hwa]
          obtain ⟨P, hP⟩ : ∃ P, P = wr.heap.size := ⟨_, rfl⟩
          rw [A4] at A5
          rw [← hP] at A1 A4 A5 hz ⊢
          have HA : Hid (msgAt wa P 0 (M k) ∧ outPart wa (w.heap.size + 1) w.heap.size n k M E ∧ Below w.heap.size w wa ∧ wa.heap.size = P + 1 ∧ entPart (wa.alloc (.cells (zeroEnts (M k).en) 44)) (P + 1) (M k).en 0 (E k)) := ⟨A1, A2, A3, A4, A5⟩
          clear h0 h1 h2 h3 h4 h5 h6 h7 h8 h9 h10 h11 h12 h13 h14 HO HW hmk44 hnil A1 A2 A3 A4 A5 hwa hP
          go_loopw [7] (fun i wi => ∃ j : Nat, j ≤ (M k).en ∧ i = .int .i64 j ∧ entPart wi (P + 1) (M k).en j (E k) ∧ Below (P + 1) wa wi) (fun i _ => (M k).en - (intOf i).toNat)
          case atStart => exact ⟨0, Nat.zero_le _, rfl, HA.out.2.2.2.2, (Below.refl _ _).alloc (by rw [HA.out.2.2.2.1]; exact Nat.le_refl _) _⟩
          case round =>
            obtain ⟨j, hj, rfl, hep, hbj⟩ := hrel
            have e6 : wr.cell? ⟨P, 6, none⟩ = some (.slice (some ⟨eb, eo, none⟩) (M k).en (M k).ec) := by
              have := (hbj.cell (p := ⟨P, 0 + 6, none⟩) (by show P < P + 1; omega)).trans HA.out.1.2.2.2.2.2.2.1
              rw [hea] at this
              simpa using this
            by_cases hjl : j < (M k).en
            · obtain ⟨q0, q1, q2⟩ := (HEE.out j hjl).below (HA.out.2.2.1.trans (hbj.mono (by omega)))
              obtain ⟨_, y0, y1, y2, t0, t1, t2⟩ := hep.room hjl
              have hPz : P + 1 < wr.heap.size := hep.lt
              have HN : Hid (entPart (putCells wr (P + 1) (j * 3) (entCells (E k j))) (P + 1) (M k).en (j + 1) (E k) ∧ Below (P + 1) wa (putCells wr (P + 1) (j * 3) (entCells (E k j))) ∧ P + 1 < (putCells wr (P + 1) (j * 3) (entCells (E k j))).heap.size) := ⟨hep.step, below_put (Nat.le_refl _) _ _ _ hbj, by rw [size_put]; exact hPz⟩
              clear hep hbj
              go_wp2
              go_roundw
              case rel => exact ⟨j + 1, by omega, by go_num, HN.out.1.keep (Below.heap_alloc _ _ _ HN.out.2.2), HN.out.2.1.alloc (Nat.le_of_lt HN.out.2.2) _⟩
              case measure => simp [intOf]; omega
            · obtain rfl : j = (M k).en := by omega
              obtain ⟨a1, a2, a3, a4, a5⟩ := HA.out
              have hb2 : Below wa.heap.size wa wr := by rw [a4]; exact hbj
              have ho2 := a2.keep hb2
              obtain ⟨v, hv, hfz⟩ := ho2.room hlt
              obtain ⟨e0, e1, e2, e3, e4, e5, e6, e7, e8, e9, e10, e11, e12, e13, e14⟩ := a1.below hb2
              rw [hea] at e6
              simp only [Nat.zero_add] at e0 e1 e2 e3 e4 e5 e6 e7 e8 e9 e10 e11 e12 e13 e14
              have c0 := hv 0 (by omega)
              have c1 := hv 1 (by omega)
              have c2 := hv 2 (by omega)
              have c3 := hv 3 (by omega)
              have c4 := hv 4 (by omega)
              have c5 := hv 5 (by omega)
              have c6 := hv 6 (by omega)
              have c7 := hv 7 (by omega)
              have c8 := hv 8 (by omega)
              have c9 := hv 9 (by omega)
              have c10 := hv 10 (by omega)
              have c11 := hv 11 (by omega)
              have c12 := hv 12 (by omega)
              have c13 := hv 13 (by omega)
              have c14 := hv 14 (by omega)
              have z0 := hfz 0
              have z1 := hfz 1
              have z2 := hfz 2
              have z3 := hfz 3
              have z4 := hfz 4
              have z5 := hfz 5
              have z6 := hfz 6
              have z7 := hfz 7
              have z8 := hfz 8
              have z9 := hfz 9
              have z10 := hfz 10
              have z11 := hfz 11
              have z12 := hfz 12
              have z13 := hfz 13
              have z14 := hfz 14
              simp only [Nat.add_zero] at c0 z0
              clear hv hfz
              have RR : Hid (outPart (putCells wr w.heap.size (k * 15) (msgCells { M k with ea := some ⟨P + 1, 0, none⟩, en := (M k).en, ec := (M k).en })) (w.heap.size + 1) w.heap.size n (k + 1) M E ∧ Below w.heap.size w (putCells wr w.heap.size (k * 15) (msgCells { M k with ea := some ⟨P + 1, 0, none⟩, en := (M k).en, ec := (M k).en }))) :=
                ⟨ho2.step (by omega) { M k with ea := some ⟨P + 1, 0, none⟩, en := (M k).en, ec := (M k).en } rfl (.inr ⟨P + 1, rfl, by omega, hep⟩), below_put (Nat.le_refl _) _ _ _ (a3.trans (hb2.mono a3.size))⟩
              clear a1 a2 a3 a4 a5 hb2 ho2 hep hbj HA
              go_wp2
              go_roundw
              case rel => exact ⟨k + 1, by omega, by go_num, RR.out.1, RR.out.2⟩
              case measure => simp [intOf]; omega
    · obtain rfl : k = n := by omega
      have HN : Hid (outPart wr (w.heap.size + 1) w.heap.size k k M E ∧ Below w.heap.size w wr) := ⟨ho, hb⟩
      clear ho hb hr hB hnl
      go_wp2
      go_ret
      exact ⟨rfl, HN.out.1, HN.out.2⟩
end Go.Proofs.Qxb6603782a
