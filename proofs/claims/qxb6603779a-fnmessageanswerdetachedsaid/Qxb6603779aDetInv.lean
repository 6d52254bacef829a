/-
  FnMessageAnswerDetached: the request's shape while it is being changed.
-/
import Derived.Test.Qxb6603779aDetParts
namespace Go.Proofs.Qxb6603779a
open Go.RowKit

/-- Block gb is a row of l bytes, whatever they are. -/
def u8Row (w : World) (gb l : Nat) : Prop := ∃ f, w.rowIs gb 5 l f ∧ ∀ j, j < l → ∃ z, f j = .int .u8 z

/-- A slice of bytes: nil, or the whole of a block between B0 and B1. -/
def shapeB (w : World) (B0 B1 : Nat) (a : Option Addr) (l c : Nat) : Prop := (a = none ∧ l = 0 ∧ c = 0) ∨ ∃ gb, a = some ⟨gb, 0, none⟩ ∧ c = l ∧ B0 ≤ gb ∧ gb < B1 ∧ u8Row w gb l

/-- Element i of the row f: four cells of their kinds. -/
def shapeE (w : World) (B0 B1 : Nat) (f : Nat → Value) (i : Nat) : Prop :=
  (∃ x, f (i * 4) = .int .u32 x) ∧ (∃ x, f (i * 4 + 1) = .int .u8 x) ∧ (∃ x, f (i * 4 + 2) = .int .u32 x) ∧ ∃ a l c, f (i * 4 + 3) = .slice a l c ∧ l ≤ 1048576 ∧ shapeB w B0 B1 a l c

/-- Block g2 is a row of n AVPs. -/
def shapeR (w : World) (B0 B1 g2 n : Nat) : Prop := ∃ f, w.rowIs g2 44 (n * 4) f ∧ ∀ i, i < n → shapeE w B0 B1 f i

/-- A slice of AVPs of the call's own. -/
def shapeL (w : World) (B0 B1 : Nat) (a : Option Addr) (n c : Nat) : Prop := (a = none ∧ n = 0 ∧ c = 0) ∨ ∃ g2, a = some ⟨g2, 0, none⟩ ∧ c = n ∧ B0 ≤ g2 ∧ g2 < B1 ∧ shapeR w B0 B1 g2 n

theorem row_types {w : World} {b b' n n' t t' : Nat} {f f' : Nat → Value} (h : w.rowIs b t n f) (h' : w.rowIs b' t' n' f') (ht : t ≠ t') : b ≠ b' := by
  rintro rfl
  obtain ⟨c, e, _⟩ := h
  obtain ⟨c', e', _⟩ := h'
  rw [e] at e'
  simp only [Option.some.injEq, Obj.cells.injEq] at e'
  exact ht e'.2.1

theorem u8Row.byte {w : World} {gb l : Nat} (h : u8Row w gb l) (b i : Nat) (z : Int) : u8Row (w.setCell ⟨b, i, none⟩ (.int .u8 z)) gb l := by
  obtain ⟨f, hr, hf⟩ := h
  by_cases e : gb = b
  · subst e
    refine ⟨_, hr.set i (.int .u8 z), fun j hj => ?_⟩
    by_cases ej : j = i
    · exact ⟨z, by simp [ej]⟩
    · obtain ⟨z', hz⟩ := hf j hj
      exact ⟨z', by simp [ej, hz]⟩
  · exact ⟨f, hr.setOther e _, hf⟩

theorem u8Row.other {w : World} {gb l : Nat} (h : u8Row w gb l) {p : Addr} (hp : gb ≠ p.block) (v : Value) : u8Row (w.setCell p v) gb l := by
  obtain ⟨f, hr, hf⟩ := h
  exact ⟨f, hr.setOther hp v, hf⟩

theorem shapeB.byte {w : World} {B0 B1 l c : Nat} {a : Option Addr} (h : shapeB w B0 B1 a l c) (b i : Nat) (z : Int) : shapeB (w.setCell ⟨b, i, none⟩ (.int .u8 z)) B0 B1 a l c := by
  rcases h with h | ⟨gb, h1, h2, h3, h4, h5⟩
  · exact .inl h
  · exact .inr ⟨gb, h1, h2, h3, h4, h5.byte b i z⟩

/-- A store into a block that is no row of bytes. -/
theorem shapeB.far {w : World} {B0 B1 l c t n : Nat} {a : Option Addr} {f : Nat → Value} (h : shapeB w B0 B1 a l c) {g : Nat} (hg : w.rowIs g t n f) (ht : t ≠ 5) (i : Nat) (v : Value) : shapeB (w.setCell ⟨g, i, none⟩ v) B0 B1 a l c := by
  rcases h with h | ⟨gb, h1, h2, h3, h4, h5⟩
  · exact .inl h
  · obtain ⟨fb, hb, _⟩ := id h5
    exact .inr ⟨gb, h1, h2, h3, h4, h5.other (row_types hb hg (fun e => ht e.symm)) v⟩

theorem shapeR.byte {w : World} {B0 B1 g2 n : Nat} (h : shapeR w B0 B1 g2 n) {b l : Nat} (hb : u8Row w b l) (i : Nat) (z : Int) : shapeR (w.setCell ⟨b, i, none⟩ (.int .u8 z)) B0 B1 g2 n := by
  obtain ⟨f, hr, hf⟩ := h
  obtain ⟨fb, hbr, _⟩ := hb
  refine ⟨f, hr.setOther (row_types hr hbr (by decide)) _, fun j hj => ?_⟩
  obtain ⟨x0, x1, x2, a, l', c, x3, x4, x5⟩ := hf j hj
  exact ⟨x0, x1, x2, a, l', c, x3, x4, x5.byte b i z⟩

/-- A store of an AVP's own field k. -/
theorem shapeR.field {w : World} {B0 B1 g2 n k d : Nat} {v : Value} (h : shapeR w B0 B1 g2 n) (hv : (d = 0 ∧ ∃ x, v = .int .u32 x) ∨ (d = 1 ∧ ∃ x, v = .int .u8 x) ∨ (d = 2 ∧ ∃ x, v = .int .u32 x)) :
    shapeR (w.setCell ⟨g2, k * 4 + d, none⟩ v) B0 B1 g2 n := by
  obtain ⟨f, hr, hf⟩ := h
  refine ⟨_, hr.set (k * 4 + d) v, fun j hj => ?_⟩
  obtain ⟨x0, x1, x2, a, l', c, x3, x4, x5⟩ := hf j hj
  refine ⟨?_, ?_, ?_, a, l', c, ?_, x4, x5.far hr (by decide) _ _⟩
  · by_cases e : j * 4 = k * 4 + d
    · simp only [e, if_true]
      rcases hv with ⟨rfl, h⟩ | ⟨rfl, _⟩ | ⟨rfl, _⟩
      · exact h
      · omega
      · omega
    · simp only [e, if_false]; exact x0
  · by_cases e : j * 4 + 1 = k * 4 + d
    · simp only [e, if_true]
      rcases hv with ⟨rfl, h⟩ | ⟨rfl, h⟩ | ⟨rfl, _⟩
      · omega
      · exact h
      · omega
    · simp only [e, if_false]; exact x1
  · by_cases e : j * 4 + 2 = k * 4 + d
    · simp only [e, if_true]
      rcases hv with ⟨rfl, h⟩ | ⟨rfl, _⟩ | ⟨rfl, h⟩
      · omega
      · omega
      · exact h
    · simp only [e, if_false]; exact x2
  · have e : ¬ j * 4 + 3 = k * 4 + d := by
      rcases hv with ⟨rfl, _⟩ | ⟨rfl, _⟩ | ⟨rfl, _⟩ <;> omega
    simp only [e, if_false]; exact x3

/-- A store into a block of another type than AVPs and bytes. -/
theorem shapeR.far {w : World} {B0 B1 g2 n g t m : Nat} {f : Nat → Value} (h : shapeR w B0 B1 g2 n) (hg : w.rowIs g t m f) (h5 : t ≠ 5) (h44 : t ≠ 44) (i : Nat) (v : Value) : shapeR (w.setCell ⟨g, i, none⟩ v) B0 B1 g2 n := by
  obtain ⟨f', hr, hf⟩ := h
  refine ⟨f', hr.setOther (row_types hr hg (fun e => h44 e.symm)) _, fun j hj => ?_⟩
  obtain ⟨x0, x1, x2, a, l', c, x3, x4, x5⟩ := hf j hj
  exact ⟨x0, x1, x2, a, l', c, x3, x4, x5.far hg h5 _ _⟩

theorem shapeL.byte {w : World} {B0 B1 n c : Nat} {a : Option Addr} (h : shapeL w B0 B1 a n c) {b l : Nat} (hb : u8Row w b l) (i : Nat) (z : Int) : shapeL (w.setCell ⟨b, i, none⟩ (.int .u8 z)) B0 B1 a n c := by
  rcases h with h | ⟨g2, h1, h2, h3, h4, h5⟩
  · exact .inl h
  · exact .inr ⟨g2, h1, h2, h3, h4, h5.byte hb i z⟩

theorem shapeL.far {w : World} {B0 B1 n c g t m : Nat} {a : Option Addr} {f : Nat → Value} (h : shapeL w B0 B1 a n c) (hg : w.rowIs g t m f) (h5 : t ≠ 5) (h44 : t ≠ 44) (i : Nat) (v : Value) : shapeL (w.setCell ⟨g, i, none⟩ v) B0 B1 a n c := by
  rcases h with h | ⟨g2, h1, h2, h3, h4, h6⟩
  · exact .inl h
  · exact .inr ⟨g2, h1, h2, h3, h4, h6.far hg h5 h44 i v⟩

/-- Blocks below B1 as they were: the shape stands. -/
theorem shapeL.keep {w w' : World} {B0 B1 n c : Nat} {a : Option Addr} (h : shapeL w B0 B1 a n c) (hb : ∀ k, k < B1 → w'.heap[k]? = w.heap[k]?) : shapeL w' B0 B1 a n c := by
  rcases h with h | ⟨g2, h1, h2, h3, h4, f, hr, hf⟩
  · exact .inl h
  · refine .inr ⟨g2, h1, h2, h3, h4, f, hr.of_block (hb g2 h4), fun i hi => ?_⟩
    obtain ⟨x0, x1, x2, a, l', c, x3, x4, x5⟩ := hf i hi
    refine ⟨x0, x1, x2, a, l', c, x3, x4, ?_⟩
    rcases x5 with x5 | ⟨gb, y1, y2, y3, y4, fb, y5, y6⟩
    · exact .inl x5
    · exact .inr ⟨gb, y1, y2, y3, y4, fb, y5.of_block (hb gb y4), y6⟩

/-- What buildRequest leaves has that shape. -/
theorem shapeL_of_own {w : World} {B0 n c : Nat} {a : Option Addr} {R : AvpC} (h : avpsOwn w B0 44 a n c R) (hL : ∀ i, i < n → R.L i ≤ 1048576) : shapeL w B0 w.heap.size a n c := by
  rcases h with h | ⟨g, h1, h2, h3, f, hr, hf⟩
  · exact .inl h
  · refine .inr ⟨g, h1, h2, h3, hr.lt, f, hr, fun i hi => ?_⟩
    obtain ⟨x0, x1, x2, a, c, x3, x4, x5⟩ := hf i hi
    refine ⟨⟨_, x0⟩, ⟨_, x1⟩, ⟨_, x2⟩, a, _, c, x3, hL i hi, ?_⟩
    rcases x4 with x4 | ⟨gb, y1, y2, y3, y4⟩
    · exact .inl x4
    · exact .inr ⟨gb, y1, y3, by omega, y4.lt, _, y4, fun j hj => ⟨_, rfl⟩⟩

/-- The request while it is being changed: its block g holds the list; the list has its shape; the blocks between B1 and B2 are as they were in w8; so is all that was there before the call. -/
structure MInv (w w8 : World) (B0 B1 B2 g : Nat) (a : Option Addr) (n c : Nat) (wr : World) : Prop where
  msg : ∃ fm, wr.rowIs g 42 6 fm ∧ fm 5 = .slice a n c
  list : shapeL wr B0 B1 a n c
  kept : ∀ k, B1 ≤ k → k < B2 → wr.heap[k]? = w8.heap[k]?
  below : Below w.heap.size w wr
  size : B2 ≤ wr.heap.size
  gLo : B0 ≤ g
  gHi : g < B1
  base : w.heap.size ≤ B0
  upto : B1 ≤ B2

theorem MInv.start {w w8 : World} {B0 B1 g n cc : Nat} {a : Option Addr} {f c p h e : Int} (hm : msgOwn w8 g f c p h e (.slice a n cc)) (hl : shapeL w8 B0 B1 a n cc) (hb : Below w.heap.size w w8) (hg0 : B0 ≤ g) (hg1 : g < B1) (hB : w.heap.size ≤ B0) (h1 : B1 ≤ w8.heap.size) (f' c' p' h' e' : Int) :
    MInv w w8 B0 B1 w8.heap.size g a n cc (setMsg w8 g f' c' p' h' e') := by
  have r0 : w8.rowIs g 42 6 _ := hm
  have r1 := r0.set 0 (.int .u8 f')
  have r2 := r1.set 1 (.int .u32 c')
  have r3 := r2.set 2 (.int .u32 p')
  have r4 := r3.set 3 (.int .u32 h')
  refine ⟨⟨_, hm.set f' c' p' h' e', rfl⟩, ((((hl.far r0 (by decide) (by decide) 0 _).far r1 (by decide) (by decide) 1 _).far r2 (by decide) (by decide) 2 _).far r3 (by decide) (by decide) 3 _).far r4 (by decide) (by decide) 4 _, fun k hk hk2 => block_setMsg _ _ _ _ _ _ _ k (by omega), below_setMsg hb (by omega), by rw [size_setMsg]; exact Nat.le_refl _, hg0, hg1, hB, h1⟩

theorem MInv.list5 {w w8 wr : World} {B0 B1 B2 g n c : Nat} {a : Option Addr} (h : MInv w w8 B0 B1 B2 g a n c wr) : wr.cell? ⟨g, 5, none⟩ = some (.slice a n c) ∧ wr.frozen? ⟨g, 5, none⟩ = false := by
  obtain ⟨fm, hm, h5⟩ := h.msg
  exact ⟨by rw [hm.cell (by omega), h5], hm.frozen 5⟩

/-- What the round wants to know of element k. -/
def RoundAt (wr : World) (B0 B1 g g2 k : Nat) (x0 x1 x2 : Int) (ad : Option Addr) (l c : Nat) : Prop :=
  wr.cell? ⟨g2, k * 4, none⟩ = some (.int .u32 x0) ∧ wr.cell? ⟨g2, k * 4 + 1, none⟩ = some (.int .u8 x1) ∧ wr.cell? ⟨g2, k * 4 + 2, none⟩ = some (.int .u32 x2) ∧ wr.cell? ⟨g2, k * 4 + 3, none⟩ = some (.slice ad l c) ∧
  wr.frozen? ⟨g2, k * 4, none⟩ = false ∧ wr.frozen? ⟨g2, k * 4 + 1, none⟩ = false ∧ wr.frozen? ⟨g2, k * 4 + 2, none⟩ = false ∧ ¬ g = g2 ∧ l ≤ 1048576 ∧ shapeB wr B0 B1 ad l c

theorem MInv.at {w w8 wr : World} {B0 B1 B2 g n c k : Nat} {a : Option Addr} (h : MInv w w8 B0 B1 B2 g a n c wr) (hk : k < n) :
    ∃ g2, a = some ⟨g2, 0, none⟩ ∧ ∃ x0 x1 x2 ad l c', RoundAt wr B0 B1 g g2 k x0 x1 x2 ad l c' := by
  obtain ⟨fm, hm, _⟩ := h.msg
  rcases h.list with ⟨_, h, _⟩ | ⟨g2, e, _, _, _, f, hr, hf⟩
  · omega
  · obtain ⟨⟨x0, y0⟩, ⟨x1, y1⟩, ⟨x2, y2⟩, ad, l, c', y3, y4, y5⟩ := hf k hk
    exact ⟨g2, e, x0, x1, x2, ad, l, c', by rw [hr.cell (by omega), y0], by rw [hr.cell (by omega), y1], by rw [hr.cell (by omega), y2], by rw [hr.cell (by omega), y3], hr.frozen _, hr.frozen _, hr.frozen _, row_types hm hr (by decide), y4, y5⟩

theorem MInv.drew {w w8 wr : World} {B0 B1 B2 g n c : Nat} {a : Option Addr} (h : MInv w w8 B0 B1 B2 g a n c wr) : MInv w w8 B0 B1 B2 g a n c wr.drew :=
  ⟨h.msg, h.list, h.kept, ⟨h.below.os, h.below.tape, h.below.output, h.below.size, h.below.block⟩, h.size, h.gLo, h.gHi, h.base, h.upto⟩

theorem MInv.byte {w w8 wr : World} {B0 B1 B2 g n c : Nat} {a : Option Addr} (h : MInv w w8 B0 B1 B2 g a n c wr) {gb l : Nat} (hb : u8Row wr gb l) (h0 : B0 ≤ gb) (h1 : gb < B1) (i : Nat) (z : Int) :
    MInv w w8 B0 B1 B2 g a n c (wr.setCell ⟨gb, i, none⟩ (.int .u8 z)) := by
  obtain ⟨fm, hm, h5⟩ := h.msg
  obtain ⟨fb, hbr, _⟩ := id hb
  refine ⟨⟨fm, hm.setOther (row_types hm hbr (by decide)) _, h5⟩, h.list.byte hb i z, fun k hk hk2 => ?_, h.below.setCell (by have := h.base; show _ ≤ gb; omega) _, by simpa [World.setCell] using h.size, h.gLo, h.gHi, h.base, h.upto⟩
  rw [Below.heap_setCell _ _ _ _ (by show k ≠ gb; omega)]
  exact h.kept k hk hk2

theorem MInv.field {w w8 wr : World} {B0 B1 B2 g n c g2 k d : Nat} {v : Value} (h : MInv w w8 B0 B1 B2 g (some ⟨g2, 0, none⟩) n c wr) (hv : (d = 0 ∧ ∃ x, v = .int .u32 x) ∨ (d = 1 ∧ ∃ x, v = .int .u8 x) ∨ (d = 2 ∧ ∃ x, v = .int .u32 x)) :
    MInv w w8 B0 B1 B2 g (some ⟨g2, 0, none⟩) n c (wr.setCell ⟨g2, k * 4 + d, none⟩ v) := by
  obtain ⟨fm, hm, h5⟩ := h.msg
  rcases h.list with ⟨h, _⟩ | ⟨g2', e, h2, h3, h4, h6⟩
  · cases h
  · simp only [Option.some.injEq, Addr.mk.injEq, and_true] at e
    subst e
    obtain ⟨f2, hr2, _⟩ := id h6
    refine ⟨⟨fm, hm.setOther (row_types hm hr2 (by decide)) _, h5⟩, .inr ⟨g2, rfl, h2, h3, h4, h6.field hv⟩, fun k hk hk2 => ?_, h.below.setCell (by have := h.base; show _ ≤ g2; omega) _, by simpa [World.setCell] using h.size, h.gLo, h.gHi, h.base, h.upto⟩
    rw [Below.heap_setCell _ _ _ _ (by show k ≠ g2; omega)]
    exact h.kept k hk hk2

theorem MInv.row {w w8 wr : World} {B0 B1 B2 g n c g2 : Nat} (h : MInv w w8 B0 B1 B2 g (some ⟨g2, 0, none⟩) n c wr) : ∃ f, wr.rowIs g2 44 (n * 4) f := by
  rcases h.list with ⟨h, _⟩ | ⟨g2', e, _, _, _, f, hr, _⟩
  · cases h
  · simp only [Option.some.injEq, Addr.mk.injEq, and_true] at e
    subst e
    exact ⟨f, hr⟩

/-- The world behind the three stores of a round. -/
def putThree (w : World) (g2 k : Nat) (x0 x1 x2 : Int) : World :=
  (((w.setCell ⟨g2, k * 4, none⟩ (.int .u32 x0)).setCell ⟨g2, k * 4 + 1, none⟩ (.int .u8 x1)).setCell ⟨g2, k * 4 + 2, none⟩ (.int .u32 x2)).drew.drew.drew

theorem MInv.three {w w8 wr : World} {B0 B1 B2 g n c g2 k l c' : Nat} {ad : Option Addr} (h : MInv w w8 B0 B1 B2 g (some ⟨g2, 0, none⟩) n c wr) (hd : shapeB wr B0 B1 ad l c') (x0 x1 x2 : Int) :
    MInv w w8 B0 B1 B2 g (some ⟨g2, 0, none⟩) n c (putThree wr g2 k x0 x1 x2) ∧ shapeB (putThree wr g2 k x0 x1 x2) B0 B1 ad l c' := by
  have i1 := h.field (k := k) (d := 0) (v := .int .u32 x0) (.inl ⟨rfl, _, rfl⟩)
  have i2 := i1.field (k := k) (d := 1) (v := .int .u8 x1) (.inr (.inl ⟨rfl, _, rfl⟩))
  have i3 := i2.field (k := k) (d := 2) (v := .int .u32 x2) (.inr (.inr ⟨rfl, _, rfl⟩))
  obtain ⟨f0, r0⟩ := h.row
  obtain ⟨f1, r1⟩ := i1.row
  obtain ⟨f2, r2⟩ := i2.row
  refine ⟨i3.drew.drew.drew, ?_⟩
  have := ((hd.far r0 (by decide) (k * 4 + 0) (.int .u32 x0)).far r1 (by decide) (k * 4 + 1) (.int .u8 x1)).far r2 (by decide) (k * 4 + 2) (.int .u32 x2)
  exact this

/-- What the inner round wants to know of byte j. -/
theorem shapeB.at {w : World} {B0 B1 l c j : Nat} {ad : Option Addr} (h : shapeB w B0 B1 ad l c) (hj : j < l) :
    ∃ gb, ad = some ⟨gb, 0, none⟩ ∧ B0 ≤ gb ∧ gb < B1 ∧ u8Row w gb l ∧ ∃ z, w.cell? ⟨gb, j, none⟩ = some (.int .u8 z) ∧ w.frozen? ⟨gb, j, none⟩ = false := by
  rcases h with ⟨_, h, _⟩ | ⟨gb, h1, _, h3, h4, h5⟩
  · omega
  · obtain ⟨f, hr, hf⟩ := id h5
    obtain ⟨z, hz⟩ := hf j hj
    exact ⟨gb, h1, h3, h4, h5, z, by rw [hr.cell hj, hz], hr.frozen j⟩

/-- The list as an owned row, for the append behind the loop. -/
theorem MInv.owns {w w8 wr : World} {B0 B1 B2 g n c : Nat} {a : Option Addr} (h : MInv w w8 B0 B1 B2 g a n c wr) (hn : n ≤ 65536) : ∃ xs, wr.ownsRow 0 44 4 (.slice a n c) n xs := by
  rcases h.list with ⟨rfl, rfl, rfl⟩ | ⟨g2, rfl, rfl, _, _, f, hr, _⟩
  · exact ⟨[], World.ownsRow_nil _ _ _ _⟩
  · obtain ⟨cs, e, hs, _⟩ := hr
    exact ⟨cs.toList, by simp [hs], .inr ⟨g2, c, cs, rfl, Nat.zero_le _, e, Nat.le_refl _, by unfold maxLen; omega, hs, List.take_of_length_le (by simp [hs])⟩⟩

theorem MInv.block {w w8 wr : World} {B0 B1 B2 g n c : Nat} {a : Option Addr} (h : MInv w w8 B0 B1 B2 g a n c wr) : ∀ k, (Value.slice a n c).ownBlock = some k → B0 ≤ k ∧ k < B1 ∧ k ≠ g := by
  intro k hk
  obtain ⟨fm, hm, _⟩ := h.msg
  rcases h.list with ⟨rfl, rfl, rfl⟩ | ⟨g2, rfl, rfl, h3, h4, f, hr, _⟩
  · simp [Value.ownBlock] at hk
  · simp only [Value.ownBlock, Option.some.injEq] at hk
    subst hk
    exact ⟨h3, h4, (row_types hm hr (by decide)).symm⟩

/-- Behind the append to the request's list and the store of the new list. -/
theorem MInv.final {w w8 wr w10 : World} {B0 B1 B2 g n c : Nat} {a : Option Addr} {o1 o2 : Obj} (h : MInv w w8 B0 B1 B2 g a n c wr) (hgrow : ((wr.alloc o1).alloc o2).grownBy w10 (Value.slice a n c).ownBlock) (v : Value) :
    (w10.cell? ⟨g, 5, none⟩ = some (.slice a n c) ∧ w10.frozen? ⟨g, 5, none⟩ = false) ∧ (∀ k, B1 ≤ k → k < B2 → (w10.setCell ⟨g, 5, none⟩ v).heap[k]? = w8.heap[k]?) ∧ Below w.heap.size w (w10.setCell ⟨g, 5, none⟩ v) ∧ B2 ≤ (w10.setCell ⟨g, 5, none⟩ v).heap.size := by
  have hs := h.size
  have hu := h.upto
  have hg := h.gHi
  have hg0 := h.gLo
  have hb := h.base
  have hsz : ((wr.alloc o1).alloc o2).heap.size = wr.heap.size + 2 := by simp
  have keep : ∀ k, k < wr.heap.size → some k ≠ (Value.slice a n c).ownBlock → w10.heap[k]? = wr.heap[k]? := fun k hk hne => by
    rw [hgrow.block k (by omega) hne, Below.heap_alloc _ _ _ (by simp; omega), Below.heap_alloc _ _ _ hk]
  have kg := keep g (by omega) (fun e => (h.block g e.symm).2.2 rfl)
  have hgs := hgrow.size
  refine ⟨⟨?_, ?_⟩, fun k hk hk2 => ?_, ?_, ?_⟩
  · rw [World.cell?_of_block (w := wr) (a := ⟨g, 5, none⟩) kg]; exact h.list5.1
  · rw [World.frozen?_of_block (w := wr) (a := ⟨g, 5, none⟩) kg]; exact h.list5.2
  · rw [Below.heap_setCell _ _ _ _ (by show k ≠ g; omega), keep k (by omega) (fun e => by have := (h.block k e.symm).2.1; omega)]
    exact h.kept k hk hk2
  · refine Below.setCell ?_ (by show _ ≤ g; omega) _
    refine Below.grown ((h.below.alloc (by omega) _).alloc (by simp; omega) _) hgrow (by omega) (fun k hk => ?_)
    have := (h.block k hk).1
    omega
  · rw [World.size_setCell]; omega
end Go.Proofs.Qxb6603779a
