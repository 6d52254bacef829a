/-
  FnMessageAnswerDetached: the reasoning on worlds, apart from the walk.
-/
import Derived.Test.Qxb6603779aGate
import Derived.Test.Qxb6603779aIntact
import Derived.Deep.AppendLies
namespace Go.Proofs.Qxb6603779a
open Go.RowKit

/-- Go's '^x' on a uint8, on a uint32, as the walk spells it. -/
def nx8 (x : Int) : Int := bits BinOp.xor IntKind.u8 IntKind.u8.max x
def nx32 (x : Int) : Int := bits BinOp.xor IntKind.u32 IntKind.u32.max x

/-- Five header fields stored. -/
def setMsg (w : World) (g : Nat) (f c p h e : Int) : World :=
  ((((w.setCell ⟨g, 0, none⟩ (.int .u8 f)).setCell ⟨g, 1, none⟩ (.int .u32 c)).setCell ⟨g, 2, none⟩ (.int .u32 p)).setCell ⟨g, 3, none⟩ (.int .u32 h)).setCell ⟨g, 4, none⟩ (.int .u32 e)

theorem msgOwn.set {w : World} {g : Nat} {f c p h e : Int} {v : Value} (hm : msgOwn w g f c p h e v) (f' c' p' h' e' : Int) : msgOwn (setMsg w g f' c' p' h' e') g f' c' p' h' e' v := by
  have := ((((World.rowIs.set hm 0 (.int .u8 f')).set 1 (.int .u32 c')).set 2 (.int .u32 p')).set 3 (.int .u32 h')).set 4 (.int .u32 e')
  refine World.rowIs.congr this fun i hi => ?_
  match i, hi with
  | 0, _ => rfl
  | 1, _ => rfl
  | 2, _ => rfl
  | 3, _ => rfl
  | 4, _ => rfl
  | 5, _ => rfl

theorem msgOwn.setList {w : World} {g : Nat} {f c p h e : Int} {v : Value} (hm : msgOwn w g f c p h e v) (v' : Value) : msgOwn (w.setCell ⟨g, 5, none⟩ v') g f c p h e v' := by
  refine World.rowIs.congr (World.rowIs.set hm 5 v') fun i hi => ?_
  match i, hi with
  | 0, _ => rfl
  | 1, _ => rfl
  | 2, _ => rfl
  | 3, _ => rfl
  | 4, _ => rfl
  | 5, _ => rfl

theorem size_setMsg (w : World) (g : Nat) (f c p h e : Int) : (setMsg w g f c p h e).heap.size = w.heap.size := by simp [setMsg, World.setCell]

theorem below_setMsg {B : Nat} {a w : World} {g : Nat} {f c p h e : Int} (hb : Below B a w) (hg : B ≤ g) : Below B a (setMsg w g f c p h e) :=
  ((((hb.setCell hg _).setCell hg _).setCell hg _).setCell hg _).setCell hg _

theorem block_setMsg (w : World) (g : Nat) (f c p h e : Int) (k : Nat) (hk : k ≠ g) : (setMsg w g f c p h e).heap[k]? = w.heap[k]? := by
  unfold setMsg
  rw [Below.heap_setCell _ _ _ _ hk, Below.heap_setCell _ _ _ _ hk, Below.heap_setCell _ _ _ _ hk, Below.heap_setCell _ _ _ _ hk, Below.heap_setCell _ _ _ _ hk]

/-- The new cells of an append of one AVP. -/
theorem news4 (W : World) (H : Nat) (hH : W.heap.size = H) (c0 c1 c2 c3 : Value) (t : Nat) :
    ∀ j u, [c0, c1, c2, c3][j]? = some u → (W.alloc (.cells #[c0, c1, c2, c3] t)).cell? ((⟨H, 0, none⟩ : Addr).add j) = some u := by
  subst hH
  exact World.news_of_block (heap_alloc_new W _)

/-- One AVP with one byte of data: what the law puts into the answer. -/
def gift (gd : Nat) : List Value := [.int .u32 4294967295, .int .u8 255, .int .u32 4294967295, .slice (some ⟨gd, 0, none⟩) 1 1]

/-- The AVP that the law appends to the request. -/
def gift2 (gd : Nat) : List Value := [.int .u32 1, .int .u8 64, .int .u32 2, .slice (some ⟨gd, 0, none⟩) 2 2]

theorem gift2_one (gd : Nat) : ∀ u ∈ gift2 gd, u.oneCell' = true := by
  intro u hu
  simp only [gift2, List.mem_cons, List.not_mem_nil, or_false] at hu
  rcases hu with rfl | rfl | rfl | rfl <;> rfl

theorem gift_one (gd : Nat) : ∀ u ∈ gift gd, u.oneCell' = true := by
  intro u hu
  simp only [gift, List.mem_cons, List.not_mem_nil, or_false] at hu
  rcases hu with rfl | rfl | rfl | rfl <;> rfl

/-- What the law has put into the answer a, in block A: its turned header, the appended AVP in row ga, its byte in block gd. -/
def giftAt (w : World) (A ga gd cap : Nat) (f c p h e : Int) : Prop :=
  msgOwn w A f c p h e (.slice (some ⟨ga, 0, none⟩) 1 cap) ∧
  (w.cell? ⟨ga, 0, none⟩ = some (.int .u32 4294967295) ∧ w.cell? ⟨ga, 1, none⟩ = some (.int .u8 255) ∧ w.cell? ⟨ga, 2, none⟩ = some (.int .u32 4294967295) ∧ w.cell? ⟨ga, 3, none⟩ = some (.slice (some ⟨gd, 0, none⟩) 1 1)) ∧
  w.cell? ⟨gd, 0, none⟩ = some (.int .u8 255)

/-- Behind the append to the answer's nil list. -/
theorem gift_stage {w3 w5 : World} {A cap ga : Nat} {f c p h e f' c' p' h' e' : Int} (hm : msgOwn w3 A f c p h e (.slice none 0 0))
    (hown : w5.ownsRow 0 44 4 (.slice (some ⟨ga, 0, none⟩) 1 cap) 1 ([] ++ gift w3.heap.size))
    (hgrow : (((setMsg w3 A f' c' p' h' e').alloc (.cells #[.int .u8 255] 5)).alloc (.cells (gift w3.heap.size).toArray 44)).grownBy w5 none) (hga : ga = w3.heap.size + 2) :
    msgOwn w5 A f' c' p' h' e' (.slice none 0 0) ∧ giftAt (w5.setCell ⟨A, 5, none⟩ (.slice (some ⟨ga, 0, none⟩) 1 cap)) A ga w3.heap.size cap f' c' p' h' e' ∧ Below A w3 w5 ∧ w3.heap.size + 2 ≤ w5.heap.size := by
  subst hga
  have hA : A < w3.heap.size := World.rowIs.lt hm
  have hsz : (((setMsg w3 A f' c' p' h' e').alloc (.cells #[.int .u8 255] 5)).alloc (.cells (gift w3.heap.size).toArray 44)).heap.size = w3.heap.size + 2 := by
    simp [size_setMsg]
  have hlt := hgrow.size
  have m1 := hm.set f' c' p' h' e'
  have m2 : msgOwn w5 A f' c' p' h' e' (.slice none 0 0) := by
    refine World.rowIs.of_block ((World.rowIs.alloc m1 _).alloc _) (hgrow.block A (by omega) (by simp))
  have hd : w5.cell? ⟨w3.heap.size, 0, none⟩ = some (.int .u8 255) := by
    rw [hgrow.cell_far ⟨w3.heap.size, 0, none⟩ (by show w3.heap.size < _; omega) (by simp)]
    rw [World.cell?_alloc_past _ _ _ (by simp [size_setMsg]), World.cell?_alloc_at _ _ _ _ (by simp [size_setMsg])]
    rfl
  have hc := fun j hj => hown.cellAt (j := j) hj
  have c0 := hc 0 (by omega)
  have c1 := hc 1 (by omega)
  have c2 := hc 2 (by omega)
  have c3 := hc 3 (by omega)
  have ne : ∀ b i, b ≠ A → (w5.setCell ⟨A, 5, none⟩ (.slice (some ⟨w3.heap.size + 2, 0, none⟩) 1 cap)).cell? ⟨b, i, none⟩ = w5.cell? ⟨b, i, none⟩ := fun b i hb => World.cell?_of_block (Below.heap_setCell _ _ _ _ hb)
  refine ⟨m2, ⟨m2.setList _, ⟨?_, ?_, ?_, ?_⟩, ?_⟩, ?_, by omega⟩
  · rw [ne _ _ (by omega)]; exact c0
  · rw [ne _ _ (by omega)]; exact c1
  · rw [ne _ _ (by omega)]; exact c2
  · rw [ne _ _ (by omega)]; exact c3
  · rw [ne _ _ (by omega)]; exact hd
  · refine ((((below_setMsg (Below.refl A w3) (Nat.le_refl _)).alloc ?_ _).alloc ?_ _).grown hgrow ?_ (by simp))
    · rw [size_setMsg]; omega
    · simp [size_setMsg]; omega
    · omega

theorem giftAt.lt {w : World} {A ga gd cap : Nat} {f c p h e : Int} (hg : giftAt w A ga gd cap f c p h e) : A < w.heap.size ∧ ga < w.heap.size ∧ gd < w.heap.size :=
  ⟨World.rowIs.lt hg.1, World.block_lt_of_cell? _ _ hg.2.1.1, World.block_lt_of_cell? _ _ hg.2.2⟩

theorem giftAt.grown {w w' : World} {A ga gd cap : Nat} {f c p h e : Int} (hg : giftAt w A ga gd cap f c p h e) (hb : Below w.heap.size w w') : giftAt w' A ga gd cap f c p h e := by
  obtain ⟨l1, l2, l3⟩ := hg.lt
  obtain ⟨h1, ⟨c0, c1, c2, c3⟩, d⟩ := hg
  exact ⟨World.rowIs.of_block h1 (hb.block A l1), ⟨(hb.cell (p := ⟨ga, 0, none⟩) l2).trans c0, (hb.cell (p := ⟨ga, 1, none⟩) l2).trans c1, (hb.cell (p := ⟨ga, 2, none⟩) l2).trans c2, (hb.cell (p := ⟨ga, 3, none⟩) l2).trans c3⟩, (hb.cell (p := ⟨gd, 0, none⟩) l3).trans d⟩

theorem giftAt.below {w w' : World} {A ga gd cap : Nat} {f c p h e : Int} (hg : giftAt w A ga gd cap f c p h e) (hb : ∀ k, k = A ∨ k = ga ∨ k = gd → w'.heap[k]? = w.heap[k]?) : giftAt w' A ga gd cap f c p h e := by
  obtain ⟨h1, ⟨c0, c1, c2, c3⟩, d⟩ := hg
  have ea := hb A (.inl rfl)
  have eg := hb ga (.inr (.inl rfl))
  have ed := hb gd (.inr (.inr rfl))
  refine ⟨World.rowIs.of_block h1 ea, ⟨?_, ?_, ?_, ?_⟩, ?_⟩
  · rw [World.cell?_of_block (w := w) (a := ⟨ga, 0, none⟩) eg]; exact c0
  · rw [World.cell?_of_block (w := w) (a := ⟨ga, 1, none⟩) eg]; exact c1
  · rw [World.cell?_of_block (w := w) (a := ⟨ga, 2, none⟩) eg]; exact c2
  · rw [World.cell?_of_block (w := w) (a := ⟨ga, 3, none⟩) eg]; exact c3
  · rw [World.cell?_of_block (w := w) (a := ⟨gd, 0, none⟩) ed]; exact d
end Go.Proofs.Qxb6603779a
