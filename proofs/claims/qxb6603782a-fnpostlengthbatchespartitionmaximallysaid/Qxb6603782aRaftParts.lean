/-
  What zzToRaft builds: the reasoning on worlds, apart from the walk.
-/
import Derived.Test.Qxb6603782aPlain
namespace Go.Proofs.Qxb6603782a
open Go.RowKit

/-- n cells stored one behind the other. -/
def putCells (w : World) (g : Nat) : Nat → List Value → World
  | _, [] => w
  | p, v :: vs => putCells (w.setCell ⟨g, p, none⟩ v) g (p + 1) vs

theorem rowIs_put {g t n : Nat} (vs : List Value) : ∀ (w : World) (f : Nat → Value) (p : Nat), w.rowIs g t n f → (putCells w g p vs).rowIs g t n (fun j => if p ≤ j ∧ j < p + vs.length then vs.getD (j - p) undef else f j) := by
  induction vs with
  | nil =>
    intro w f p h
    refine h.congr fun j _ => ?_
    rw [if_neg]
    simp
  | cons v vs ih =>
    intro w f p h
    have h2 := ih (w.setCell ⟨g, p, none⟩ v) _ (p + 1) (h.set p v)
    refine h2.congr fun j _ => ?_
    simp only [List.length_cons]
    by_cases e : j = p
    · subst e
      rw [if_neg (by omega), if_pos rfl, if_pos (by omega)]
      simp
    · by_cases h3 : p + 1 ≤ j ∧ j < p + 1 + vs.length
      · rw [if_pos h3, if_pos (by omega)]
        rw [show j - p = (j - (p + 1)) + 1 by omega]
        simp
      · rw [if_neg h3, if_neg e, if_neg (by omega)]

theorem below_put {B : Nat} {a : World} {g : Nat} (hg : B ≤ g) (vs : List Value) : ∀ (w : World) (p : Nat), Below B a w → Below B a (putCells w g p vs) := by
  induction vs with
  | nil => intro w p h; exact h
  | cons v vs ih => intro w p h; exact ih _ _ (h.setCell hg v)

theorem size_put (g : Nat) (vs : List Value) : ∀ (w : World) (p : Nat), (putCells w g p vs).heap.size = w.heap.size := by
  induction vs with
  | nil => intro w p; rfl
  | cons v vs ih => intro w p; rw [putCells, ih, World.size_setCell]

theorem block_put (g : Nat) (vs : List Value) (k : Nat) (hk : k ≠ g) : ∀ (w : World) (p : Nat), (putCells w g p vs).heap[k]? = w.heap[k]? := by
  induction vs with
  | nil => intro w p; rfl
  | cons v vs ih => intro w p; rw [putCells, ih, Below.heap_setCell _ _ _ _ hk]

/-- The cells of an entry, of a Message. -/
def entCells (x : EntC) : List Value := [.int .u64 x.y0, .int .u64 x.y1, .slice x.xa x.xl x.xc]
def msgCells (m : MsgC) : List Value := [.string m.s0, .string m.s1, .string m.s2, .int .u64 m.x3, .int .u64 m.x4, .int .u64 m.x5, .slice m.ea m.en m.ec, .int .u64 m.x7, .bool m.b8, .int .u64 m.x9, .int .u64 m.x10, .int .u64 m.x11, .int .u64 m.x12, .slice m.da m.dn m.dc, .bool m.b14]

/-- Block g is a row of n entries, the first k of which are E. -/
def entPart (w : World) (g n k : Nat) (E : Nat → EntC) : Prop := ∃ f, w.rowIs g 44 (n * 3) f ∧ ∀ j, j < k → ∀ d, d < 3 → f (j * 3 + d) = (entCells (E j)).getD d undef

theorem entPart.step {w : World} {g n k : Nat} {E : Nat → EntC} (h : entPart w g n k E) : entPart (putCells w g (k * 3) (entCells (E k))) g n (k + 1) E := by
  obtain ⟨f, hr, hf⟩ := h
  refine ⟨_, rowIs_put (entCells (E k)) w f (k * 3) hr, fun j hj d hd => ?_⟩
  by_cases e : j = k
  · subst e
    rw [if_pos (by simp [entCells]; omega)]
    rw [show j * 3 + d - j * 3 = d by omega]
  · rw [if_neg (by simp [entCells]; omega)]
    exact hf j (by omega) d hd

theorem entPart.keep {w w' : World} {g n k : Nat} {E : Nat → EntC} (h : entPart w g n k E) (hb : w'.heap[g]? = w.heap[g]?) : entPart w' g n k E := by
  obtain ⟨f, hr, hf⟩ := h
  exact ⟨f, hr.of_block hb, hf⟩

theorem entPart.lt {w : World} {g n k : Nat} {E : Nat → EntC} (h : entPart w g n k E) : g < w.heap.size := by
  obtain ⟨f, hr, _⟩ := h
  exact hr.lt

/-- A slice of entries of the call's own. -/
def entsOwn (w : World) (lo : Nat) (a : Option Addr) (n : Nat) (E : Nat → EntC) : Prop := n = 0 ∨ ∃ g, a = some ⟨g, 0, none⟩ ∧ lo ≤ g ∧ entPart w g n n E

theorem entsOwn.ents {w : World} {lo n : Nat} {a : Option Addr} {E : Nat → EntC} (h : entsOwn w lo a n E) : entsAt w a n E := by
  rcases h with h | ⟨g, h1, _, f, hr, hf⟩
  · exact .inl h
  · refine .inr ⟨g, 0, h1, fun j hj => ⟨?_, ?_, ?_⟩⟩
    · rw [Nat.zero_add, hr.cell (by omega)]; exact congrArg some (hf j hj 0 (by omega))
    · rw [Nat.zero_add, hr.cell (by omega)]; exact congrArg some (hf j hj 1 (by omega))
    · rw [Nat.zero_add, hr.cell (by omega)]; exact congrArg some (hf j hj 2 (by omega))

theorem entsOwn.keep {w w' : World} {lo n : Nat} {a : Option Addr} {E : Nat → EntC} (h : entsOwn w lo a n E) (hb : ∀ k, lo ≤ k → k < w.heap.size → w'.heap[k]? = w.heap[k]?) : entsOwn w' lo a n E := by
  rcases h with h | ⟨g, h1, h2, h3⟩
  · exact .inl h
  · exact .inr ⟨g, h1, h2, h3.keep (hb g h2 h3.lt)⟩

/-- Block g is a row of n raft Messages, the first k of which carry the entries E of the first k Messages M. -/
def outPart (w : World) (lo g n k : Nat) (M : Nat → MsgC) (E : Nat → Nat → EntC) : Prop :=
  ∃ f, w.rowIs g 47 (n * 15) f ∧ ∀ i, i < k → ∃ m : MsgC, (∀ d, d < 15 → f (i * 15 + d) = (msgCells m).getD d undef) ∧ m.en = (M i).en ∧ entsOwn w lo m.ea m.en (E i)

theorem outPart.lt {w : World} {lo g n k : Nat} {M : Nat → MsgC} {E : Nat → Nat → EntC} (h : outPart w lo g n k M E) : g < w.heap.size := by
  obtain ⟨f, hr, _⟩ := h
  exact hr.lt

theorem outPart.step {w : World} {lo g n k : Nat} {M : Nat → MsgC} {E : Nat → Nat → EntC} (h : outPart w lo g n k M E) (hg : g < lo) (m : MsgC) (hm : m.en = (M k).en) (he : entsOwn w lo m.ea m.en (E k)) :
    outPart (putCells w g (k * 15) (msgCells m)) lo g n (k + 1) M E := by
  obtain ⟨f, hr, hf⟩ := h
  have kp : ∀ j, lo ≤ j → j < w.heap.size → (putCells w g (k * 15) (msgCells m)).heap[j]? = w.heap[j]? := fun j hj _ => block_put g _ j (by omega) _ _
  refine ⟨_, rowIs_put (msgCells m) w f (k * 15) hr, fun i hi => ?_⟩
  by_cases e : i = k
  · subst e
    refine ⟨m, fun d hd => ?_, hm, he.keep kp⟩
    rw [if_pos (by simp [msgCells]; omega)]
    rw [show i * 15 + d - i * 15 = d by omega]
  · obtain ⟨m', h1, h2, h3⟩ := hf i (by omega)
    refine ⟨m', fun d hd => ?_, h2, h3.keep kp⟩
    rw [if_neg (by simp [msgCells]; omega)]
    exact h1 d hd

theorem outPart.keep {w w' : World} {lo g n k : Nat} {M : Nat → MsgC} {E : Nat → Nat → EntC} (h : outPart w lo g n k M E) (hb : Below w.heap.size w w') : outPart w' lo g n k M E := by
  obtain ⟨f, hr, hf⟩ := h
  refine ⟨f, hr.of_block (hb.block g hr.lt), fun i hi => ?_⟩
  obtain ⟨m, h1, h2, h3⟩ := hf i hi
  exact ⟨m, h1, h2, h3.keep (fun k _ hk => hb.block k hk)⟩

/-- The whole row, read. -/
theorem outPart.row {w : World} {lo g n : Nat} {M : Nat → MsgC} {E : Nat → Nat → EntC} (h : outPart w lo g n n M E) : ∃ M' : Nat → MsgC, (∀ i, i < n → (M' i).en = (M i).en) ∧ ∀ i, i < n → msgAt w g (0 + i * 15) (M' i) ∧ entsAt w (M' i).ea (M' i).en (E i) := by
  obtain ⟨f, hr, hf⟩ := h
  refine ⟨fun i => if hi : i < n then Classical.choose (hf i hi) else M i, fun i hi => ?_, fun i hi => ?_⟩
  · simp only [dif_pos hi]
    exact (Classical.choose_spec (hf i hi)).2.1
  · simp only [dif_pos hi]
    obtain ⟨h1, _, h3⟩ := Classical.choose_spec (hf i hi)
    refine ⟨?_, h3.ents⟩
    have key : ∀ d, d < 15 → w.cell? ⟨g, 0 + i * 15 + d, none⟩ = some ((msgCells (Classical.choose (hf i hi))).getD d undef) := fun d hd => by
      rw [Nat.zero_add, hr.cell (by omega), h1 d hd]
    exact ⟨key 0 (by omega), key 1 (by omega), key 2 (by omega), key 3 (by omega), key 4 (by omega), key 5 (by omega), key 6 (by omega), key 7 (by omega), key 8 (by omega), key 9 (by omega), key 10 (by omega), key 11 (by omega), key 12 (by omega), key 13 (by omega), key 14 (by omega)⟩
end Go.Proofs.Qxb6603782a
