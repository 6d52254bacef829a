/-
  What a row of AVPs in memory holds: predicates on worlds and their small laws. No Go function is walked here but copyBytes, whose contract is put into these words.
-/
import Derived.Test.Qxb6603779aCopy
namespace Go.Proofs.Qxb6603779a
open Go.RowKit

/-- The content of a list of AVPs, by index: code, flags, vendor, the data's length, whether it is nil, its bytes. -/
structure AvpC where
  C : Nat → Int
  F : Nat → Int
  V : Nat → Int
  L : Nat → Nat
  E : Nat → Bool
  Z : Nat → Nat → Int

/-- A slice of bytes: nil, or n bytes z somewhere. -/
def bytesAt (w : World) (a : Option Addr) (n c : Nat) (z : Nat → Int) : Prop :=
  (a = none ∧ n = 0 ∧ c = 0) ∨ ∃ x, a = some x ∧ ∀ i, i < n → w.cell? (x.add i) = some (.int .u8 (z i))

/-- A slice of bytes of the call's own: nil, or the whole of a block from number lo on. -/
def ownB (w : World) (lo : Nat) (a : Option Addr) (n c : Nat) (z : Nat → Int) : Prop :=
  (a = none ∧ n = 0 ∧ c = 0) ∨ ∃ g, a = some ⟨g, 0, none⟩ ∧ lo ≤ g ∧ c = n ∧ w.rowIs g 5 n (fun i => .int .u8 (z i))

theorem ownB.bytes {w : World} {lo n c : Nat} {a : Option Addr} {z : Nat → Int} (h : ownB w lo a n c z) : bytesAt w a n c z := by
  rcases h with h | ⟨g, rfl, _, _, hr⟩
  · exact .inl h
  · exact .inr ⟨_, rfl, fun i hi => by rw [add_plain', Nat.zero_add]; exact hr.cell hi⟩

theorem ownB.below {w w' : World} {lo n c : Nat} {a : Option Addr} {z : Nat → Int} (h : ownB w lo a n c z) (hb : Below w.heap.size w w') : ownB w' lo a n c z := by
  rcases h with h | ⟨g, rfl, h1, h2, hr⟩
  · exact .inl h
  · exact .inr ⟨g, rfl, h1, h2, hr.of_block (hb.block g hr.lt)⟩

theorem ownB.set {w : World} {lo n c : Nat} {a : Option Addr} {z : Nat → Int} (h : ownB w lo a n c z) {p : Addr} (hp : p.block < lo) (v : Value) : ownB (w.setCell p v) lo a n c z := by
  rcases h with h | ⟨g, rfl, h1, h2, hr⟩
  · exact .inl h
  · exact .inr ⟨g, rfl, h1, h2, hr.setOther (by omega) v⟩

theorem ownB.mono {w : World} {lo lo' n c : Nat} {a : Option Addr} {z : Nat → Int} (h : ownB w lo a n c z) (hl : lo' ≤ lo) : ownB w lo' a n c z := by
  rcases h with h | ⟨g, rfl, h1, h2, hr⟩
  · exact .inl h
  · exact .inr ⟨g, rfl, by omega, h2, hr⟩

theorem bytesAt.below {w w' : World} {n c : Nat} {a : Option Addr} {z : Nat → Int} (h : bytesAt w a n c z) (hb : Below w.heap.size w w') : bytesAt w' a n c z := by
  rcases h with h | ⟨x, rfl, hx⟩
  · exact .inl h
  · exact .inr ⟨x, rfl, fun i hi => (hb.cell (World.block_lt_of_cell? _ _ (hx i hi))).trans (hx i hi)⟩

/-- What copyBytes gives. -/
def CopyPost (w : World) (n : Nat) (z : Nat → Int) (en : Bool) (e : Ending) (w' : World) : Prop :=
  ∃ a' c', e = .returned (.slice a' n c') ∧ ownB w' w.heap.size a' n c' z ∧ a'.isNone = en ∧ Below w.heap.size w w'

theorem copy_any (a : Option Addr) (n c : Nat) (z : Nat → Int) (w : World) (hn : n ≤ 1048576) (hb : bytesAt w a n c z) :
    Calls Try.prog 23 #[.slice a n c] w fun e w' => CopyPost w n z a.isNone e w' := by
  rcases hb with ⟨rfl, rfl, rfl⟩ | ⟨x, rfl, hx⟩
  · refine (copy_nil w).mono ?_
    rintro e w' ⟨rfl, rfl⟩
    exact ⟨none, 0, rfl, .inl ⟨rfl, rfl, rfl⟩, rfl, Below.refl _ _⟩
  · refine (copy_some x n c z w hn hx).mono ?_
    rintro e w' ⟨rfl, h1, h2, h3⟩
    exact ⟨some ⟨w.heap.size, 0, none⟩, n, rfl, .inr ⟨_, rfl, Nat.le_refl _, rfl, h1⟩, rfl, h2⟩

/-- A row of n AVPs with content R lies in block b from offset o on. -/
def srcAt (w : World) (b o n : Nat) (R : AvpC) : Prop :=
  ∀ i, i < n → ∃ a c, w.cell? ⟨b, o + i * 4, none⟩ = some (.int .u32 (R.C i)) ∧ w.cell? ⟨b, o + i * 4 + 1, none⟩ = some (.int .u8 (R.F i)) ∧ w.cell? ⟨b, o + i * 4 + 2, none⟩ = some (.int .u32 (R.V i)) ∧
    w.cell? ⟨b, o + i * 4 + 3, none⟩ = some (.slice a (R.L i) c) ∧ bytesAt w a (R.L i) c (R.Z i) ∧ a.isNone = R.E i

theorem srcAt.below {w w' : World} {b o n : Nat} {R : AvpC} (h : srcAt w b o n R) (hb : Below w.heap.size w w') : srcAt w' b o n R := by
  intro i hi
  obtain ⟨a, c, h0, h1, h2, h3, h4, h5⟩ := h i hi
  have hl := World.block_lt_of_cell? _ _ h0
  exact ⟨a, c, (hb.cell hl).trans h0, (hb.cell (p := ⟨b, o + i * 4 + 1, none⟩) hl).trans h1, (hb.cell (p := ⟨b, o + i * 4 + 2, none⟩) hl).trans h2, (hb.cell (p := ⟨b, o + i * 4 + 3, none⟩) hl).trans h3, h4.below hb, h5⟩

/-- Element i of the row f has content R, its data the call's own. -/
def elemOk (w : World) (lo : Nat) (f : Nat → Value) (R : AvpC) (i : Nat) : Prop :=
  f (i * 4) = .int .u32 (R.C i) ∧ f (i * 4 + 1) = .int .u8 (R.F i) ∧ f (i * 4 + 2) = .int .u32 (R.V i) ∧ ∃ a c, f (i * 4 + 3) = .slice a (R.L i) c ∧ ownB w lo a (R.L i) c (R.Z i) ∧ a.isNone = R.E i

/-- Block g is a row of n AVPs of the call's own, the first k of which have content R. -/
def partAt (w : World) (lo g t n k : Nat) (R : AvpC) : Prop := ∃ f, w.rowIs g t (n * 4) f ∧ ∀ i, i < k → elemOk w lo f R i

theorem partAt.src {w : World} {lo g t n : Nat} {R : AvpC} (h : partAt w lo g t n n R) : srcAt w g 0 n R := by
  obtain ⟨f, hr, he⟩ := h
  intro i hi
  obtain ⟨h0, h1, h2, a, c, h3, h4, h5⟩ := he i hi
  refine ⟨a, c, ?_, ?_, ?_, ?_, h4.bytes, h5⟩
  · rw [Nat.zero_add, hr.cell (by omega), h0]
  · rw [Nat.zero_add, hr.cell (by omega), h1]
  · rw [Nat.zero_add, hr.cell (by omega), h2]
  · rw [Nat.zero_add, hr.cell (by omega), h3]

theorem partAt.below {w w' : World} {lo g t n k : Nat} {R : AvpC} (h : partAt w lo g t n k R) (hb : Below w.heap.size w w') : partAt w' lo g t n k R := by
  obtain ⟨f, hr, he⟩ := h
  refine ⟨f, hr.of_block (hb.block g hr.lt), fun i hi => ?_⟩
  obtain ⟨h0, h1, h2, a, c, h3, h4, h5⟩ := he i hi
  exact ⟨h0, h1, h2, a, c, h3, h4.below hb, h5⟩

theorem partAt.lt {w : World} {lo g t n k : Nat} {R : AvpC} (h : partAt w lo g t n k R) : g < w.heap.size := by
  obtain ⟨f, hr, _⟩ := h
  exact hr.lt

/-- The world behind the store of one AVP. -/
def putAvp (w : World) (g p : Nat) (c f v d : Value) : World :=
  (((w.setCell ⟨g, p, none⟩ c).setCell ⟨g, p + 1, none⟩ f).setCell ⟨g, p + 2, none⟩ v).setCell ⟨g, p + 3, none⟩ d

/-- One round: element k is stored. -/
theorem partAt.step {w : World} {lo g t n k : Nat} {R : AvpC} (h : partAt w lo g t n k R) (hg : g < lo) {a : Option Addr} {c : Nat} (hd : ownB w lo a (R.L k) c (R.Z k)) (he : a.isNone = R.E k) :
    partAt (putAvp w g (k * 4) (.int .u32 (R.C k)) (.int .u8 (R.F k)) (.int .u32 (R.V k)) (.slice a (R.L k) c)) lo g t n (k + 1) R := by
  obtain ⟨f, hr, hk⟩ := h
  refine ⟨_, (((hr.set (k * 4) _).set (k * 4 + 1) _).set (k * 4 + 2) _).set (k * 4 + 3) _, fun i hi => ?_⟩
  by_cases e : i = k
  · subst e
    refine ⟨by simp, by simp, by simp, a, c, by simp, (((hd.set hg _).set hg _).set hg _).set hg _, he⟩
  · obtain ⟨h0, h1, h2, a', c', h3, h4, h5⟩ := hk i (by omega)
    refine ⟨?_, ?_, ?_, a', c', ?_, (((h4.set hg _).set hg _).set hg _).set hg _, h5⟩
    · rw [← h0]; simp only; rw [if_neg (by omega), if_neg (by omega), if_neg (by omega), if_neg (by omega)]
    · rw [← h1]; simp only; rw [if_neg (by omega), if_neg (by omega), if_neg (by omega), if_neg (by omega)]
    · rw [← h2]; simp only; rw [if_neg (by omega), if_neg (by omega), if_neg (by omega), if_neg (by omega)]
    · rw [← h3]; simp only; rw [if_neg (by omega), if_neg (by omega), if_neg (by omega), if_neg (by omega)]

theorem below_of_drew {B : Nat} {w w' : World} (h : Below B w.drew w') : Below B w w' := ⟨h.os, h.tape, h.output, h.size, h.block⟩

/-- What the round's store wants to know of the row's cells. -/
def RoomAt (w : World) (g p : Nat) : Prop := (∃ v0 v1 v2 v3, w.cell? ⟨g, p, none⟩ = some v0 ∧ w.cell? ⟨g, p + 1, none⟩ = some v1 ∧ w.cell? ⟨g, p + 2, none⟩ = some v2 ∧ w.cell? ⟨g, p + 3, none⟩ = some v3) ∧
  w.frozen? ⟨g, p, none⟩ = false ∧ w.frozen? ⟨g, p + 1, none⟩ = false ∧ w.frozen? ⟨g, p + 2, none⟩ = false ∧ w.frozen? ⟨g, p + 3, none⟩ = false

theorem partAt.room {w : World} {lo g t n k j : Nat} {R : AvpC} (h : partAt w lo g t n k R) (hj : j < n) : RoomAt w g (j * 4) := by
  obtain ⟨f, hr, _⟩ := h
  exact ⟨⟨_, _, _, _, hr.cell (by omega), hr.cell (by omega), hr.cell (by omega), hr.cell (by omega)⟩, hr.frozen _, hr.frozen _, hr.frozen _, hr.frozen _⟩

theorem below_putAvp {B : Nat} {a w : World} {g p : Nat} {c f v d : Value} (h : Below B a w) (hg : B ≤ g) : Below B a (putAvp w g p c f v d) :=
  (((h.setCell hg _).setCell hg _).setCell hg _).setCell hg _

theorem size_putAvp (w : World) (g p : Nat) (c f v d : Value) : (putAvp w g p c f v d).heap.size = w.heap.size := by simp [putAvp, World.setCell]
end Go.Proofs.Qxb6603779a
