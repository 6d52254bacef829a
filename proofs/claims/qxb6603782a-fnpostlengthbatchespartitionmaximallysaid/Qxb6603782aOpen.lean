/-
  A slice of Messages that came in, opened: from its reading as data to 'rowAt'.
-/
import Derived.Test.Qxb6603782aTooBig
import Derived.Deep.Slices
import Derived.Deep.Fields
import Derived.ProofKit
import Derived.OpenShut
namespace Go.Proofs.Qxb6603782a
open Go.ChangeShapes Go.WideShapes Go.ChangeAt Go.RowKit

section
variable {H : Type} {enc : TypeId × Value → H} {P : Program} {w : World} {base : Nat} {spare : Nat → Bool} {held : Bool}

/-- A slice of structs whose fields are one cell each, opened at every index and field. -/
theorem open_slice_fields {t e : TypeId} {fs : Array Field} {fuel : Nat} {cs : List Value} {x : DataW H × List MemPlace} (ht : P.underlying t = some (.slice e)) (hs : P.underlying e = some (.struct fs))
    (hone : ∀ (i : Nat) (f : Field), fs[i]? = some f → f.offset = i ∧ P.cellsOf f.type = 1) (hC : P.cellsOf e = fs.size) (h : DataW.trod enc P w base spare held fuel t cs = some x) :
    cs = [.slice none 0 0] ∨
    ∃ (a : Addr) (len cap : Nat), cs = [.slice (some a) len cap] ∧ len ≤ cap ∧ cap ≤ maxLen ∧
      ∀ i, i < len → ∃ (V : Nat → Value) (n : Nat), ∀ (j : Nat) (f : Field), fs[j]? = some f → w.cell? (a.add (i * fs.size + j)) = some (V j) ∧ ∃ y, DataW.trod enc P w base spare held n f.type [V j] = some y := by
  rcases Go.Deep.open_slice ht h with h0 | ⟨a, len, cap, m, n, D, Pl, rfl, _, hl, hm, hmm, _, hx⟩
  · exact .inl h0.1
  refine .inr ⟨a, len, cap, rfl, hl, hm, fun i hi => ?_⟩
  have him : i < m := by
    rw [hmm]
    split <;> omega
  obtain ⟨cs', hcells, hy⟩ := hx i him
  obtain ⟨_, hlen, hcell⟩ := World.cells?_some hcells
  rw [hC] at hlen hcell
  obtain ⟨xs, n', _, _, _, hxl, hf⟩ := DataW.trod_struct hs hy
  refine ⟨fun j => cs'.getD j undef, n', fun j f hj => ?_⟩
  have hlt : j < fs.size := (Array.getElem?_eq_some_iff.1 hj).1
  obtain ⟨ho, hc1⟩ := hone j f hj
  have g := hf j f hj
  rw [ho, hc1] at g
  rw [Go.Deep.take1_drop cs' j undef (by omega), List.getElem?_eq_getElem (show j < xs.length by omega)] at g
  refine ⟨?_, _, g⟩
  have := hcell j hlt
  rw [Go.Deep.add_add, List.getElem?_eq_getElem (show j < cs'.length by omega)] at this
  rw [this]
  simp [List.getD, List.getElem?_eq_getElem (show j < cs'.length by omega)]
end


theorem Try.cells33 : Try.prog.cellsOf 33 = 15 := by kernel_rfl
theorem Try.cells39 : Try.prog.cellsOf 39 = 3 := by kernel_rfl

theorem add_flat (b o i : Nat) : (⟨b, o, none⟩ : Addr).add i = ⟨b, o + i, none⟩ := by unfold Addr.add; split <;> simp_all

def ent0 : EntC := ⟨0, 0, none, 0, 0⟩
def msg0 : MsgC := ⟨ByteArray.empty, ByteArray.empty, ByteArray.empty, 0, 0, 0, none, 0, 0, 0, false, 0, 0, 0, 0, none, 0, 0, false⟩

section
variable {H : Type} {enc : TypeId × Value → H} {w : World}

/-- A slice of whatever elements: its shape. -/
theorem slice_shape {t e : TypeId} {n : Nat} {v : Value} {y : DataW H × List MemPlace} (ht : Try.prog.underlying t = some (.slice e)) (h : DataW.trod enc Try.prog w 0 (fun _ => true) true n t [v] = some y) :
    ∃ (a : Option Addr) (l c : Nat), v = .slice a l c ∧ l ≤ 9223372036854775807 := by
  rcases Go.Deep.open_slice ht h with ⟨hcs, _⟩ | ⟨a, len, cap, m, n', D, Pl, hcs, _, hl, hm, _⟩
  · simp only [List.cons.injEq, and_true] at hcs
    exact ⟨none, 0, 0, hcs, Nat.zero_le _⟩
  · simp only [List.cons.injEq, and_true] at hcs
    unfold maxLen at hm
    exact ⟨some a, len, cap, hcs, by omega⟩

/-- A slice of entries. -/
theorem open_ents {n : Nat} {v : Value} {y : DataW H × List MemPlace} (h : DataW.trod enc Try.prog w 0 (fun _ => true) true n 30 [v] = some y) :
    ∃ (a : Option Addr) (l c : Nat) (E : Nat → EntC), v = .slice a l c ∧ (a = none → l = 0) ∧ entsAt w a l E := by
  rcases open_slice_fields Try.underlying30 Try.underlying39 (Go.Deep.hone_of (by kernel_rfl)) Try.cells39 h with hcs | ⟨ad, len, cap, hcs, _, _, hx⟩
  · simp only [List.cons.injEq, and_true] at hcs
    exact ⟨none, 0, 0, fun _ => ent0, hcs, fun _ => rfl, .inl rfl⟩
  · simp only [List.cons.injEq, and_true] at hcs
    have key : ∀ j, j < len → ∃ x : EntC, w.cell? (ad.add (j * 3)) = some (.int .u64 x.y0) ∧ w.cell? (ad.add (j * 3 + 1)) = some (.int .u64 x.y1) ∧ w.cell? (ad.add (j * 3 + 2)) = some (.slice x.xa x.xl x.xc) := by
      intro j hj
      obtain ⟨V, n', hV⟩ := hx j hj
      obtain ⟨c0, z0, t0⟩ := hV 0 _ rfl
      obtain ⟨c1, z1, t1⟩ := hV 1 _ rfl
      obtain ⟨c2, z2, t2⟩ := hV 2 _ rfl
      obtain ⟨n0, e0, _⟩ := DataW.trod_int Try.underlying29 t0
      obtain ⟨n1, e1, _⟩ := DataW.trod_int Try.underlying29 t1
      obtain ⟨a2, l2, k2, e2, _⟩ := slice_shape Try.underlying31 t2
      simp only [List.cons.injEq, and_true] at e0 e1
      rw [e0] at c0
      rw [e1] at c1
      rw [e2] at c2
      exact ⟨⟨n0, n1, a2, l2, k2⟩, c0, c1, c2⟩
    obtain ⟨E, hE⟩ := @Go.Deep.choose_lt EntC ⟨ent0⟩ _ _ key
    refine ⟨some ad, len, cap, E, hcs, (fun h => by cases h), ?_⟩
    by_cases h0 : len = 0
    · exact .inl h0
    · right
      obtain ⟨b, o, s⟩ := ad
      have hs : s = none := by simpa [Addr.add] using World.cell?_spot (hE 0 (by omega)).1
      subst hs
      refine ⟨b, o, rfl, fun j hj => ?_⟩
      obtain ⟨g0, g1, g2⟩ := hE j hj
      simp only [add_flat] at g0 g1 g2
      exact ⟨g0, g1, g2⟩

/-- The argument: its content. -/
theorem open_msgs {a : Option Addr} {len cap fuel : Nat} {x : DataW H × List MemPlace} (h : DataW.trod enc Try.prog w 0 (fun _ => true) true fuel 22 [.slice a len cap] = some x) :
    ∃ (M : Nat → MsgC) (E : Nat → Nat → EntC), rowAt w a len M E ∧ Fits len M ∧ (∀ i, i < len → (M i).ea = none → (M i).en = 0) ∧ (a = none → len = 0 ∧ cap = 0) := by
  rcases open_slice_fields Try.underlying22 Try.underlying33 (Go.Deep.hone_of (by kernel_rfl)) Try.cells33 h with hcs | ⟨ad, len', cap', hcs, _, _, hx⟩
  · simp only [List.cons.injEq, Value.slice.injEq, and_true] at hcs
    obtain ⟨rfl, rfl, rfl⟩ := hcs
    exact ⟨fun _ => msg0, fun _ _ => ent0, .inl rfl, (fun i hi => absurd hi (Nat.not_lt_zero _)), (fun i hi => absurd hi (Nat.not_lt_zero _)), fun _ => ⟨rfl, rfl⟩⟩
  · simp only [List.cons.injEq, Value.slice.injEq, and_true] at hcs
    obtain ⟨rfl, rfl, rfl⟩ := hcs
    have key : ∀ i, i < len → ∃ q : MsgC × (Nat → EntC), (w.cell? (ad.add (i * 15)) = some (.string q.1.s0) ∧ w.cell? (ad.add (i * 15 + 1)) = some (.string q.1.s1) ∧ w.cell? (ad.add (i * 15 + 2)) = some (.string q.1.s2) ∧ w.cell? (ad.add (i * 15 + 3)) = some (.int .u64 q.1.x3) ∧ w.cell? (ad.add (i * 15 + 4)) = some (.int .u64 q.1.x4) ∧ w.cell? (ad.add (i * 15 + 5)) = some (.int .u64 q.1.x5) ∧ w.cell? (ad.add (i * 15 + 6)) = some (.slice q.1.ea q.1.en q.1.ec) ∧ w.cell? (ad.add (i * 15 + 7)) = some (.int .u64 q.1.x7) ∧ w.cell? (ad.add (i * 15 + 8)) = some (.bool q.1.b8) ∧ w.cell? (ad.add (i * 15 + 9)) = some (.int .u64 q.1.x9) ∧ w.cell? (ad.add (i * 15 + 10)) = some (.int .u64 q.1.x10) ∧ w.cell? (ad.add (i * 15 + 11)) = some (.int .u64 q.1.x11) ∧ w.cell? (ad.add (i * 15 + 12)) = some (.int .u64 q.1.x12) ∧ w.cell? (ad.add (i * 15 + 13)) = some (.slice q.1.da q.1.dn q.1.dc) ∧ w.cell? (ad.add (i * 15 + 14)) = some (.bool q.1.b14)) ∧ entsAt w q.1.ea q.1.en q.2 ∧ (q.1.ea = none → q.1.en = 0) ∧
        q.1.s0.size ≤ 9223372036854775807 ∧ q.1.s1.size ≤ 9223372036854775807 ∧ q.1.s2.size ≤ 9223372036854775807 ∧ q.1.dn ≤ 9223372036854775807 := by
      intro i hi
      obtain ⟨V, n, hV⟩ := hx i hi
      obtain ⟨c0, z0, t0⟩ := hV 0 _ rfl
      obtain ⟨c1, z1, t1⟩ := hV 1 _ rfl
      obtain ⟨c2, z2, t2⟩ := hV 2 _ rfl
      obtain ⟨c3, z3, t3⟩ := hV 3 _ rfl
      obtain ⟨c4, z4, t4⟩ := hV 4 _ rfl
      obtain ⟨c5, z5, t5⟩ := hV 5 _ rfl
      obtain ⟨c6, z6, t6⟩ := hV 6 _ rfl
      obtain ⟨c7, z7, t7⟩ := hV 7 _ rfl
      obtain ⟨c8, z8, t8⟩ := hV 8 _ rfl
      obtain ⟨c9, z9, t9⟩ := hV 9 _ rfl
      obtain ⟨c10, z10, t10⟩ := hV 10 _ rfl
      obtain ⟨c11, z11, t11⟩ := hV 11 _ rfl
      obtain ⟨c12, z12, t12⟩ := hV 12 _ rfl
      obtain ⟨c13, z13, t13⟩ := hV 13 _ rfl
      obtain ⟨c14, z14, t14⟩ := hV 14 _ rfl
      obtain ⟨s0, e0, _, b0⟩ := DataW.trod_string Try.underlying9 t0
      obtain ⟨s1, e1, _, b1⟩ := DataW.trod_string Try.underlying9 t1
      obtain ⟨s2, e2, _, b2⟩ := DataW.trod_string Try.underlying9 t2
      obtain ⟨n3, e3, _⟩ := DataW.trod_int Try.underlying29 t3
      obtain ⟨n4, e4, _⟩ := DataW.trod_int Try.underlying29 t4
      obtain ⟨n5, e5, _⟩ := DataW.trod_int Try.underlying29 t5
      obtain ⟨ea, en, ec, E, e6, hnl, hE⟩ := open_ents t6
      obtain ⟨n7, e7, _⟩ := DataW.trod_int Try.underlying29 t7
      obtain ⟨b8, e8, _⟩ := DataW.trod_bool Try.underlying4 t8
      obtain ⟨n9, e9, _⟩ := DataW.trod_int Try.underlying29 t9
      obtain ⟨n10, e10, _⟩ := DataW.trod_int Try.underlying29 t10
      obtain ⟨n11, e11, _⟩ := DataW.trod_int Try.underlying29 t11
      obtain ⟨n12, e12, _⟩ := DataW.trod_int Try.underlying29 t12
      obtain ⟨da, dn, dc, e13, hdn⟩ := slice_shape Try.underlying31 t13
      obtain ⟨b14, e14, _⟩ := DataW.trod_bool Try.underlying4 t14
      simp only [List.cons.injEq, and_true] at e0 e1 e2 e3 e4 e5 e7 e8 e9 e10 e11 e12 e14
      unfold maxLen at b0 b1 b2
      rw [e0] at c0
      rw [e1] at c1
      rw [e2] at c2
      rw [e3] at c3
      rw [e4] at c4
      rw [e5] at c5
      rw [e6] at c6
      rw [e7] at c7
      rw [e8] at c8
      rw [e9] at c9
      rw [e10] at c10
      rw [e11] at c11
      rw [e12] at c12
      rw [e13] at c13
      rw [e14] at c14
      exact ⟨(⟨s0, s1, s2, n3, n4, n5, ea, en, ec, n7, b8, n9, n10, n11, n12, da, dn, dc, b14⟩, E), ⟨c0, c1, c2, c3, c4, c5, c6, c7, c8, c9, c10, c11, c12, c13, c14⟩, hE, hnl, b0, b1, b2, hdn⟩
    obtain ⟨q, hq⟩ := @Go.Deep.choose_lt (MsgC × (Nat → EntC)) ⟨(msg0, fun _ => ent0)⟩ _ _ key
    refine ⟨fun i => (q i).1, fun i => (q i).2, ?_, fun i hi => (hq i hi).2.2.2, fun i hi => (hq i hi).2.2.1, (fun h => by cases h)⟩
    by_cases h0 : len = 0
    · exact .inl h0
    · right
      obtain ⟨b, o, s⟩ := ad
      have hs : s = none := by simpa [Addr.add] using World.cell?_spot (hq 0 (by omega)).1.1
      subst hs
      refine ⟨b, o, rfl, fun i hi => ?_⟩
      obtain ⟨g, he, _⟩ := hq i hi
      simp only [add_flat] at g
      exact ⟨g, he⟩
end
end Go.Proofs.Qxb6603782a
