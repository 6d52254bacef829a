/-
  Walks of frameReader.byte (18), fail (19), ZZFrameByte (15), the size guard (13).
-/
import Derived.Test.Qxb6603782aProg
import Derived.WalkKit
import Derived.WalkLawsBesides
import Derived.WalkSpells
import Derived.Deep.OwnRows
import Derived.Deep.QuietTactic
import Derived.BigQuiet
namespace Go.Proofs.Qxb6603782a
open Go.RowKit

theorem below_drewN {B : Nat} {a w : World} (h : Below B a w) (m : Nat) : Below B a (w.drewN m) := ⟨h.os, h.tape, h.output, h.size, h.block⟩

set_option maxHeartbeats 400000 in
theorem frame_empty (a : Option Addr) (c : Nat) (f : Bool) (w : World) :
    Calls Try.prog 15 #[.slice a 0 c, .bool f] w fun e w' => e = .returned (.tuple #[.int .u8 0, .slice none 0 0, .bool true]) ∧ Below w.heap.size w w' := by
  go_enter Try.func15, Try.ntmps15
  go_wp2
  go_end0
  go_wp2
  go_quiet (fail)
  go_wp2
  go_ret3
  exact ⟨rfl, below_drewN ((Below.refl _ _).alloc (Nat.le_refl _) _) _⟩

set_option maxHeartbeats 400000 in
theorem frame_more (b o m c : Nat) (z : Int) (f : Bool) (w : World) (hm : m + 1 ≤ 1048576) (_hc : m ≤ c) (hc0 : ¬ c = 0) (_hcm : c ≤ 1048576) (hz : w.cell? ⟨b, o, none⟩ = some (.int .u8 z)) :
    Calls Try.prog 15 #[.slice (some ⟨b, o, none⟩) (m + 1) (c + 1), .bool f] w fun e w' => e = .returned (.tuple #[.int .u8 z, .slice (some ⟨b, o + 1, none⟩) m c, .bool f]) ∧ Below w.heap.size w w' := by
  have hb := World.block_lt_of_cell? _ _ hz
  go_enter Try.func15, Try.ntmps15
  go_wp2
  go_quiet (fail)
  go_wp2
  go_ret3
  exact ⟨rfl, below_drewN ((Below.refl _ _).alloc (Nat.le_refl _) _) _⟩

set_option maxHeartbeats 400000 in
theorem frame_last (b o : Nat) (z : Int) (f : Bool) (w : World) (hz : w.cell? ⟨b, o, none⟩ = some (.int .u8 z)) :
    Calls Try.prog 15 #[.slice (some ⟨b, o, none⟩) 1 1, .bool f] w fun e w' => e = .returned (.tuple #[.int .u8 z, .slice (some ⟨b, o, none⟩) 0 0, .bool f]) ∧ Below w.heap.size w w' := by
  have hb := World.block_lt_of_cell? _ _ hz
  go_enter Try.func15, Try.ntmps15
  go_wp2
  go_quiet (fail)
  go_wp2
  go_ret3
  exact ⟨rfl, below_drewN ((Below.refl _ _).alloc (Nat.le_refl _) _) _⟩

set_option maxHeartbeats 400000 in
theorem guard13 (a : Option Addr) (n c : Nat) (f : Bool) (x : Int) (w : World) (hn : n ≤ 1048576) :
    Calls Try.prog 13 #[.slice a n c, .bool f, .int .i64 x] w fun e w' => e = .returned (.bool true) ∧ w' = w := by
  go_enter Try.func13, Try.ntmps13
  go_wp2
  go_ret
  exact ⟨rfl, rfl⟩

set_option maxHeartbeats 400000 in
theorem guard13_big (a : Option Addr) (n c : Nat) (f : Bool) (x : Int) (w : World) (hn : 1048576 < n) (hm : n ≤ 9223372036854775807) :
    Calls Try.prog 13 #[.slice a n c, .bool f, .int .i64 x] w fun e w' => e = .returned (.bool false) ∧ w' = w := by
  go_enter Try.func13, Try.ntmps13
  go_wp2
  go_ret
  exact ⟨rfl, rfl⟩
end Go.Proofs.Qxb6603782a
