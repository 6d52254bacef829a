/-
  No cell of these rows narrows 'for every input' (looked for: loops, veiled, ifaces, maps, wideKeys, modest, calm, conditions, laid).
  DERIVED. THE GIVEN ROWS OF THIS SEAT. 5 by the template 'for every input the law returns true; each argument reads behind the call as it read before'; 0 by the template 'total and deterministic' (their statements: Qxb6603779aTotals.lean).
  GIVEN WITH THE SEED: the statements are not yours to turn. If you find one false, say at which input.
  Laid BY PROGRAM, IN A SANDBOX (cutbox-rows.mjs): the forced cells as the released guide's own fill.sh prints them over the translation 71e70f1ca018ba70… (all of the seat's roots in one cut). By AI agents, Wed Nov 11 2026. No macro, syntax, notation, axiom, sorry.
-/
import Derived.Test.Qxb6603779aChecked
import GoSem.Claim
import GoSem.ClaimJoined
import GoSem.ClaimMapViews
import Derived.JoinedTies
import Derived.KernelRfl
namespace Go.Proofs.Qxb6603779a
/- THE CELL 'sum', in the pinned program and in every row, IS THE sha256 OF THE DUMP (.gsa) THAT Qxb6603779aProg.lean LOADS. Nothing in Lean hashes anything: it is a label: what it is worth is what the hold of that sum in a sandbox is worth. -/
noncomputable def Try.pinned : Pinned := { name := "qxb6603779a", sum := "71e70f1ca018ba708457cce936ca7ba09a85c650da24c3ffbad49844b2b4c681", checked := Try.checked }
namespace Rows
def none {H : Type} : Left H := { results := [], args := [] }

/-- 'zzlaws_diameter_b1.FnFormatExampleFreshEachCall': WHATEVER THE INPUT: true; the input reads as it did. -/
def fnFormatExampleFreshEachCallSpec : ChangeSpec := { name := "fnFormatExampleFreshEachCall", fn := fun _ => fun
  | [d] => { results := [.lit (.bool true)], args := [d] }
  | _ => none }
def fnFormatExampleFreshEachCallRow : OpenClaim := { program := "qxb6603779a", sum := "71e70f1ca018ba708457cce936ca7ba09a85c650da24c3ffbad49844b2b4c681", func := "example.com/ledgerwire/ledgerwire/zzlaws_diameter_b1.FnFormatExampleFreshEachCall", spec := "fnFormatExampleFreshEachCall", apart := false }
def FnFormatExampleFreshEachCallSaid : Prop := fnFormatExampleFreshEachCallRow.holds Try.pinned (OpenSpec.ofChange fnFormatExampleFreshEachCallSpec)

/-- ITS FALSE NEIGHBOUR: 'it returns false'. Refute it at one input. -/
def fnFormatExampleFreshEachCallWrong : ChangeSpec := { name := "fnFormatExampleFreshEachCall", fn := fun _ => fun
  | [d] => { results := [.lit (.bool false)], args := [d] }
  | _ => none }
def FnFormatExampleFreshEachCallWrongFalsely : Prop := fnFormatExampleFreshEachCallRow.holds Try.pinned (OpenSpec.ofChange fnFormatExampleFreshEachCallWrong)

/-- 'zzlaws_diameter_b1.FnFormatExampleFitsSize': WHATEVER THE INPUT: true; the input reads as it did. -/
def fnFormatExampleFitsSizeSpec : ChangeSpec := { name := "fnFormatExampleFitsSize", fn := fun _ => fun
  | [d] => { results := [.lit (.bool true)], args := [d] }
  | _ => none }
def fnFormatExampleFitsSizeRow : OpenClaim := { program := "qxb6603779a", sum := "71e70f1ca018ba708457cce936ca7ba09a85c650da24c3ffbad49844b2b4c681", func := "example.com/ledgerwire/ledgerwire/zzlaws_diameter_b1.FnFormatExampleFitsSize", spec := "fnFormatExampleFitsSize", apart := false }
def FnFormatExampleFitsSizeSaid : Prop := fnFormatExampleFitsSizeRow.holds Try.pinned (OpenSpec.ofChange fnFormatExampleFitsSizeSpec)

/-- ITS FALSE NEIGHBOUR: 'it returns false'. Refute it at one input. -/
def fnFormatExampleFitsSizeWrong : ChangeSpec := { name := "fnFormatExampleFitsSize", fn := fun _ => fun
  | [d] => { results := [.lit (.bool false)], args := [d] }
  | _ => none }
def FnFormatExampleFitsSizeWrongFalsely : Prop := fnFormatExampleFitsSizeRow.holds Try.pinned (OpenSpec.ofChange fnFormatExampleFitsSizeWrong)

/-- 'zzlaws_diameter_b1.FnMessageAnswerSpec': WHATEVER THE INPUT: true; the input reads as it did. -/
def fnMessageAnswerSpecSpec : ChangeSpec := { name := "fnMessageAnswerSpec", fn := fun _ => fun
  | [d1, d2, d3, d4, d5, d6] => { results := [.lit (.bool true)], args := [d1, d2, d3, d4, d5, d6] }
  | _ => none }
def fnMessageAnswerSpecRow : OpenClaim := { program := "qxb6603779a", sum := "71e70f1ca018ba708457cce936ca7ba09a85c650da24c3ffbad49844b2b4c681", func := "example.com/ledgerwire/ledgerwire/zzlaws_diameter_b1.FnMessageAnswerSpec", spec := "fnMessageAnswerSpec", apart := false }
def FnMessageAnswerSpecSaid : Prop := fnMessageAnswerSpecRow.holds Try.pinned (OpenSpec.ofChange fnMessageAnswerSpecSpec)

/-- ITS FALSE NEIGHBOUR: 'it returns false'. Refute it at one input. -/
def fnMessageAnswerSpecWrong : ChangeSpec := { name := "fnMessageAnswerSpec", fn := fun _ => fun
  | [d1, d2, d3, d4, d5, d6] => { results := [.lit (.bool false)], args := [d1, d2, d3, d4, d5, d6] }
  | _ => none }
def FnMessageAnswerSpecWrongFalsely : Prop := fnMessageAnswerSpecRow.holds Try.pinned (OpenSpec.ofChange fnMessageAnswerSpecWrong)

/-- 'zzlaws_diameter_b1.FnMessageAnswerIdempotent': WHATEVER THE INPUT: true; the input reads as it did. -/
def fnMessageAnswerIdempotentSpec : ChangeSpec := { name := "fnMessageAnswerIdempotent", fn := fun _ => fun
  | [d1, d2, d3, d4, d5, d6] => { results := [.lit (.bool true)], args := [d1, d2, d3, d4, d5, d6] }
  | _ => none }
def fnMessageAnswerIdempotentRow : OpenClaim := { program := "qxb6603779a", sum := "71e70f1ca018ba708457cce936ca7ba09a85c650da24c3ffbad49844b2b4c681", func := "example.com/ledgerwire/ledgerwire/zzlaws_diameter_b1.FnMessageAnswerIdempotent", spec := "fnMessageAnswerIdempotent", apart := false }
def FnMessageAnswerIdempotentSaid : Prop := fnMessageAnswerIdempotentRow.holds Try.pinned (OpenSpec.ofChange fnMessageAnswerIdempotentSpec)

/-- ITS FALSE NEIGHBOUR: 'it returns false'. Refute it at one input. -/
def fnMessageAnswerIdempotentWrong : ChangeSpec := { name := "fnMessageAnswerIdempotent", fn := fun _ => fun
  | [d1, d2, d3, d4, d5, d6] => { results := [.lit (.bool false)], args := [d1, d2, d3, d4, d5, d6] }
  | _ => none }
def FnMessageAnswerIdempotentWrongFalsely : Prop := fnMessageAnswerIdempotentRow.holds Try.pinned (OpenSpec.ofChange fnMessageAnswerIdempotentWrong)

/-- 'zzlaws_diameter_b1.FnMessageAnswerDetached': WHATEVER THE INPUT: true; the input reads as it did. -/
def fnMessageAnswerDetachedSpec : ChangeSpec := { name := "fnMessageAnswerDetached", fn := fun _ => fun
  | [d1, d2, d3, d4, d5, d6] => { results := [.lit (.bool true)], args := [d1, d2, d3, d4, d5, d6] }
  | _ => none }
def fnMessageAnswerDetachedRow : OpenClaim := { program := "qxb6603779a", sum := "71e70f1ca018ba708457cce936ca7ba09a85c650da24c3ffbad49844b2b4c681", func := "example.com/ledgerwire/ledgerwire/zzlaws_diameter_b1.FnMessageAnswerDetached", spec := "fnMessageAnswerDetached", apart := false }
def FnMessageAnswerDetachedSaid : Prop := fnMessageAnswerDetachedRow.holds Try.pinned (OpenSpec.ofChange fnMessageAnswerDetachedSpec)

/-- ITS FALSE NEIGHBOUR: 'it returns false'. Refute it at one input. -/
def fnMessageAnswerDetachedWrong : ChangeSpec := { name := "fnMessageAnswerDetached", fn := fun _ => fun
  | [d1, d2, d3, d4, d5, d6] => { results := [.lit (.bool false)], args := [d1, d2, d3, d4, d5, d6] }
  | _ => none }
def FnMessageAnswerDetachedWrongFalsely : Prop := fnMessageAnswerDetachedRow.holds Try.pinned (OpenSpec.ofChange fnMessageAnswerDetachedWrong)

end Rows
end Go.Proofs.Qxb6603779a
