/-
  Walks of Message.Answer (17) and isAnswerTo (18).
-/
import Derived.Test.Qxb6603779aProg
import Derived.WalkKit
import Derived.WalkLawsBesides
import Derived.Deep.RegionHeld3
import Derived.Deep.OwnRows
namespace Go.Proofs.Qxb6603779a
open Go.RowKit

/-- A Message with these fields lies in block b. -/
def msgAt (w : World) (b : Nat) (f c p h e : Int) (v : Value) : Prop :=
  w.cell? ⟨b, 0, none⟩ = some (.int .u8 f) ∧ w.cell? ⟨b, 1, none⟩ = some (.int .u32 c) ∧ w.cell? ⟨b, 2, none⟩ = some (.int .u32 p) ∧
  w.cell? ⟨b, 3, none⟩ = some (.int .u32 h) ∧ w.cell? ⟨b, 4, none⟩ = some (.int .u32 e) ∧ w.cell? ⟨b, 5, none⟩ = some v

set_option maxHeartbeats 1000000 in
theorem answer_any (b : Nat) (f c p h e : Int) (v : Value) (w : World) (hm : msgAt w b f c p h e v) :
    Calls Try.prog 17 #[.pointer (some ⟨b, 0, none⟩)] w fun e' w' => e' = .returned (.pointer (some ⟨w.heap.size, 0, none⟩)) ∧
      w' = (w.alloc (.cells #[.int .u8 (bits BinOp.and IntKind.u8 f 64), .int .u32 c, .int .u32 p, .int .u32 h, .int .u32 e, .slice none 0 0] 42)).drew := by
  obtain ⟨h0, h1, h2, h3, h4, h5⟩ := hm
  go_enter Try.func17, Try.ntmps17
  go_wp2
  go_region_held3 (fun w' => w'.cell? ⟨b, 0, none⟩ = some (.int .u8 f) ∧ w'.cell? ⟨b, 1, none⟩ = some (.int .u32 c) ∧ w'.cell? ⟨b, 2, none⟩ = some (.int .u32 p) ∧ w'.cell? ⟨b, 3, none⟩ = some (.int .u32 h) ∧ w'.cell? ⟨b, 4, none⟩ = some (.int .u32 e)) (go_keep) (fail)
  go_wp2
  go_ret
  exact ⟨rfl, rfl⟩

/-- The answer's flags: the P bit alone. -/
def pbit (f : Int) : Int := bits BinOp.and IntKind.u8 f 64

theorem pbit_facts : ∀ m : Fin 256, (bits BinOp.and IntKind.u8 (bits BinOp.and IntKind.u8 (m.val : Int) 64) 128 != 0) = false ∧ (bits BinOp.and IntKind.u8 (bits BinOp.and IntKind.u8 (m.val : Int) 64) 64 != bits BinOp.and IntKind.u8 (m.val : Int) 64) = false ∧
    (bits BinOp.andNot IntKind.u8 (bits BinOp.and IntKind.u8 (m.val : Int) 64) 64 != 0) = false ∧ bits BinOp.and IntKind.u8 (bits BinOp.and IntKind.u8 (m.val : Int) 64) 64 = bits BinOp.and IntKind.u8 (m.val : Int) 64 := by decide +kernel

theorem pbit_all (f : Int) (h0 : 0 ≤ f) (h1 : f < 256) : (bits BinOp.and IntKind.u8 (pbit f) 128 != 0) = false ∧ (bits BinOp.and IntKind.u8 (pbit f) 64 != bits BinOp.and IntKind.u8 f 64) = false ∧ (bits BinOp.andNot IntKind.u8 (pbit f) 64 != 0) = false ∧ pbit (pbit f) = pbit f := by
  have := pbit_facts ⟨f.toNat, by omega⟩
  simp only [Int.toNat_of_nonneg h0] at this
  exact this

theorem eqnil40 (a : Option Addr) (n c : Nat) (w : World) : (binOp .eql 40 (.slice a n c) (.slice none 0 0)).run Try.prog w = .ok (.bool a.isNone) w := Lib.run_eql_slice_nil w 40 44 a n c 0 0 Try.underlying40

set_option maxHeartbeats 1000000 in
theorem isAnswer_any (b : Nat) (f c p h e : Int) (w : World) (h0 : 0 ≤ f) (h1 : f < 256) (hm : msgAt w b (pbit f) c p h e (.slice none 0 0)) :
    Calls Try.prog 18 #[.pointer (some ⟨b, 0, none⟩), .int .u8 f, .int .u32 c, .int .u32 p, .int .u32 h, .int .u32 e] w fun e' w' => e' = .returned (.bool true) ∧ w' = w := by
  obtain ⟨c0, c1, c2, c3, c4, c5⟩ := hm
  obtain ⟨b1, b2, b3, _⟩ := pbit_all f h0 h1
  have hnil := eqnil40
  go_enter Try.func18, Try.ntmps18
  go_wp2
  go_ret
  exact ⟨rfl, rfl⟩
end Go.Proofs.Qxb6603779a
