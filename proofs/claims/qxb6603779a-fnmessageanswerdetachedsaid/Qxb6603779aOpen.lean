/-
  A slice of AVPs that came in, opened: from its reading as data to 'avpsIn'.
-/
import Derived.Test.Qxb6603779aClone
import Derived.Deep.Slices
import Derived.Deep.Fields
import Derived.ProofKit
import Derived.OpenShut
namespace Go.Proofs.Qxb6603779a
open Go.ChangeShapes Go.WideShapes Go.ChangeAt Go.RowKit

section
variable {H : Type} {enc : TypeId × Value → H} {P : Program} {w : World} {base : Nat} {spare : Nat → Bool} {held : Bool}

/-- A slice of structs whose fields are one cell each, opened at every index and field. -/
theorem open_slice_fields {t e : TypeId} {fs : Array Field} {fuel : Nat} {cs : List Value} {x : DataW H × List MemPlace} (ht : P.underlying t = some (.slice e)) (hs : P.underlying e = some (.struct fs))
    (hone : ∀ (i : Nat) (f : Field), fs[i]? = some f → f.offset = i ∧ P.cellsOf f.type = 1) (hC : P.cellsOf e = fs.size) (h : DataW.trod enc P w base spare held fuel t cs = some x) :
    cs = [.slice none 0 0] ∨
    ∃ (a : Addr) (len cap : Nat), cs = [.slice (some a) len cap] ∧ len ≤ cap ∧ cap ≤ maxLen ∧
      ∀ i, i < len → ∃ (V : Nat → Value) (n : Nat), ∀ (j : Nat) (f : Field), fs[j]? = some f → w.cell? (a.add (i * fs.size + j)) = some (V j) ∧ ∃ y, DataW.trod enc P w base spare held n f.type [V j] = some y := by
  rcases Go.Deep.open_slice ht h with h0 | ⟨a, len, cap, m, n, D, Pl, rfl, _, hl, hm, hmm, _, hx⟩
  · exact .inl h0.1
  refine .inr ⟨a, len, cap, rfl, hl, hm, fun i hi => ?_⟩
  have him : i < m := by
    rw [hmm]
    split <;> omega
  obtain ⟨cs', hcells, hy⟩ := hx i him
  obtain ⟨_, hlen, hcell⟩ := World.cells?_some hcells
  rw [hC] at hlen hcell
  obtain ⟨xs, n', _, _, _, hxl, hf⟩ := DataW.trod_struct hs hy
  refine ⟨fun j => cs'.getD j undef, n', fun j f hj => ?_⟩
  have hlt : j < fs.size := (Array.getElem?_eq_some_iff.1 hj).1
  obtain ⟨ho, hc1⟩ := hone j f hj
  have g := hf j f hj
  rw [ho, hc1] at g
  rw [Go.Deep.take1_drop cs' j undef (by omega), List.getElem?_eq_getElem (show j < xs.length by omega)] at g
  refine ⟨?_, _, g⟩
  have := hcell j hlt
  rw [Go.Deep.add_add, List.getElem?_eq_getElem (show j < cs'.length by omega)] at this
  rw [this]
  simp [List.getD, List.getElem?_eq_getElem (show j < cs'.length by omega)]
end

theorem Try.cells5 : Try.prog.cellsOf 5 = 1 := by kernel_rfl
theorem Try.cells46 : Try.prog.cellsOf 46 = 4 := by kernel_rfl

theorem open_bytes {H : Type} {enc : TypeId × Value → H} {w : World} {n : Nat} {v : Value} {y : DataW H × List MemPlace} (h : DataW.trod enc Try.prog w 0 (fun _ => true) true n 22 [v] = some y) :
    ∃ (a : Option Addr) (l c : Nat) (z : Nat → Int), v = .slice a l c ∧ l ≤ maxLen ∧ bytesAt w a l c z := by
  rcases open_ints Try.underlying22 Try.underlying5 Try.cells5 h with ⟨hcs, _⟩ | ⟨a, len, cap, zs, hcs, _, hl, hm, hz, _, hcell, _⟩
  · simp only [List.cons.injEq, and_true] at hcs
    subst hcs
    exact ⟨none, 0, 0, fun _ => 0, rfl, Nat.zero_le _, .inl ⟨rfl, rfl, rfl⟩⟩
  · simp only [List.cons.injEq, and_true] at hcs
    subst hcs
    simp only [if_true] at hz
    exact ⟨some a, len, cap, fun i => zs.getD i 0, rfl, by omega, .inr ⟨a, rfl, fun i hi => hcell i (by omega)⟩⟩

/-- The argument: its content. -/
theorem open_avps {H : Type} {enc : TypeId × Value → H} {w : World} {a : Option Addr} {len cap fuel : Nat} {x : DataW H × List MemPlace} (h : DataW.trod enc Try.prog w 0 (fun _ => true) true fuel 31 [.slice a len cap] = some x) :
    ∃ R : AvpC, avpsIn w a len cap R ∧ len ≤ 9223372036854775807 ∧ ∀ i, i < len → R.L i ≤ 9223372036854775807 := by
  rcases open_slice_fields Try.underlying31 Try.underlying46 (Go.Deep.hone_of (by kernel_rfl)) Try.cells46 h with hcs | ⟨ad, len', cap', hcs, hl, hm, hx⟩
  · simp only [List.cons.injEq, Value.slice.injEq, and_true] at hcs
    obtain ⟨rfl, rfl, rfl⟩ := hcs
    exact ⟨⟨fun _ => 0, fun _ => 0, fun _ => 0, fun _ => 0, fun _ => true, fun _ _ => 0⟩, .inl ⟨rfl, rfl, rfl⟩, by omega, fun i hi => absurd hi (Nat.not_lt_zero _)⟩
  · simp only [List.cons.injEq, Value.slice.injEq, and_true] at hcs
    obtain ⟨rfl, rfl, rfl⟩ := hcs
    unfold maxLen at hm
    have key : ∀ i, i < len → ∃ q : Int × Int × Int × Nat × Bool × (Nat → Int), ∃ da dc, w.cell? (ad.add (i * 4)) = some (.int .u32 q.1) ∧ w.cell? (ad.add (i * 4 + 1)) = some (.int .u8 q.2.1) ∧ w.cell? (ad.add (i * 4 + 2)) = some (.int .u32 q.2.2.1) ∧
        w.cell? (ad.add (i * 4 + 3)) = some (.slice da q.2.2.2.1 dc) ∧ bytesAt w da q.2.2.2.1 dc q.2.2.2.2.2 ∧ da.isNone = q.2.2.2.2.1 ∧ q.2.2.2.1 ≤ 9223372036854775807 := by
      intro i hi
      obtain ⟨V, n, hV⟩ := hx i hi
      obtain ⟨c0, y0, t0⟩ := hV 0 _ rfl
      obtain ⟨c1, y1, t1⟩ := hV 1 _ rfl
      obtain ⟨c2, y2, t2⟩ := hV 2 _ rfl
      obtain ⟨c3, y3, t3⟩ := hV 3 _ rfl
      obtain ⟨n0, e0, _⟩ := DataW.trod_int Try.underlying30 t0
      obtain ⟨n1, e1, _⟩ := DataW.trod_int Try.underlying5 t1
      obtain ⟨n2, e2, _⟩ := DataW.trod_int Try.underlying30 t2
      obtain ⟨da, dl, dc, z, e3, hdl, hb⟩ := open_bytes t3
      simp only [List.cons.injEq, and_true] at e0 e1 e2
      unfold maxLen at hdl
      rw [e0] at c0
      rw [e1] at c1
      rw [e2] at c2
      rw [e3] at c3
      exact ⟨(n0, n1, n2, dl, da.isNone, z), da, dc, c0, c1, c2, c3, hb, rfl, hdl⟩
    obtain ⟨q, hq⟩ := Go.Deep.choose_lt key
    refine ⟨⟨fun i => (q i).1, fun i => (q i).2.1, fun i => (q i).2.2.1, fun i => (q i).2.2.2.1, fun i => (q i).2.2.2.2.1, fun i => (q i).2.2.2.2.2⟩, .inr ⟨ad, rfl, ?_⟩, by omega, fun i hi => ?_⟩
    · by_cases h0 : len = 0
      · exact .inl h0
      · right
        obtain ⟨_, _, hc0, _⟩ := hq 0 (by omega)
        obtain ⟨b, o, s⟩ := ad
        have hs : s = none := by simpa [Addr.add] using World.cell?_spot hc0
        subst hs
        refine ⟨b, o, rfl, fun i hi => ?_⟩
        obtain ⟨da, dc, g0, g1, g2, g3, g4, g5, _⟩ := hq i hi
        simp only [add_plain'] at g0 g1 g2 g3
        exact ⟨da, dc, g0, g1, g2, g3, g4, g5⟩
    · obtain ⟨_, _, _, _, _, _, _, _, hl⟩ := hq i hi
      exact hl
end Go.Proofs.Qxb6603779a
