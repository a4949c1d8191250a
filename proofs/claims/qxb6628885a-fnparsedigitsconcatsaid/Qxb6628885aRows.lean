/-
  No cell of these rows narrows 'for every input' (looked for: loops, veiled, ifaces, maps, wideKeys, modest, calm, conditions, laid).
  DERIVED. THE GIVEN ROWS OF THIS SEAT. 2 by the template 'for every input the law returns true; each argument reads behind the call as it read before'; 0 by the template 'total and deterministic' (their statements: Qxb6628885aTotals.lean).
  GIVEN WITH THE SEED: the statements are not yours to turn. If you find one false, say at which input.
  Laid BY PROGRAM, IN A SANDBOX (cutbox-rows.mjs): the forced cells as the released guide's own fill.sh prints them over the translation 0a994987b630f8ce… (all of the seat's roots in one cut). By AI agents, Wed Nov 11 2026. No macro, syntax, notation, axiom, sorry.
-/
import Derived.Test.Qxb6628885aChecked
import GoSem.Claim
import GoSem.ClaimJoined
import GoSem.ClaimMapViews
import Derived.JoinedTies
import Derived.KernelRfl
namespace Go.Proofs.Qxb6628885a
/- THE CELL 'sum', in the pinned program and in every row, IS THE sha256 OF THE DUMP (.gsa) THAT Qxb6628885aProg.lean LOADS. Nothing in Lean hashes anything: it is a label: what it is worth is what the hold of that sum in a sandbox is worth. -/
noncomputable def Try.pinned : Pinned := { name := "qxb6628885a", sum := "0a994987b630f8ce572e1fe9520494d4a288b781080e36bc23f9dcaa4939ab51", checked := Try.checked }
namespace Rows
def none {H : Type} : Left H := { results := [], args := [] }

/-- 'zzlaws_internal_wide_b1.FnParseDigitsExact': WHATEVER THE INPUT: true; the input reads as it did. -/
def fnParseDigitsExactSpec : ChangeSpec := { name := "fnParseDigitsExact", fn := fun _ => fun
  | [d] => { results := [.lit (.bool true)], args := [d] }
  | _ => none }
def fnParseDigitsExactRow : OpenClaim := { program := "qxb6628885a", sum := "0a994987b630f8ce572e1fe9520494d4a288b781080e36bc23f9dcaa4939ab51", func := "example.com/scalefold/scalefold/zzlaws_internal_wide_b1.FnParseDigitsExact", spec := "fnParseDigitsExact", inPlace := ["math/bits.Add64"], apart := false }
def FnParseDigitsExactSaid : Prop := fnParseDigitsExactRow.holds Try.pinned (OpenSpec.ofChange fnParseDigitsExactSpec)

/-- ITS FALSE NEIGHBOUR: 'it returns false'. Refute it at one input. -/
def fnParseDigitsExactWrong : ChangeSpec := { name := "fnParseDigitsExact", fn := fun _ => fun
  | [d] => { results := [.lit (.bool false)], args := [d] }
  | _ => none }
def FnParseDigitsExactWrongFalsely : Prop := fnParseDigitsExactRow.holds Try.pinned (OpenSpec.ofChange fnParseDigitsExactWrong)

/-- 'zzlaws_internal_wide_b1.FnParseDigitsConcat': WHATEVER THE INPUT: true; the input reads as it did. -/
def fnParseDigitsConcatSpec : ChangeSpec := { name := "fnParseDigitsConcat", fn := fun _ => fun
  | [d1, d2] => { results := [.lit (.bool true)], args := [d1, d2] }
  | _ => none }
def fnParseDigitsConcatRow : OpenClaim := { program := "qxb6628885a", sum := "0a994987b630f8ce572e1fe9520494d4a288b781080e36bc23f9dcaa4939ab51", func := "example.com/scalefold/scalefold/zzlaws_internal_wide_b1.FnParseDigitsConcat", spec := "fnParseDigitsConcat", inPlace := ["math/bits.Add64"], apart := false }
def FnParseDigitsConcatSaid : Prop := fnParseDigitsConcatRow.holds Try.pinned (OpenSpec.ofChange fnParseDigitsConcatSpec)

/-- ITS FALSE NEIGHBOUR: 'it returns false'. Refute it at one input. -/
def fnParseDigitsConcatWrong : ChangeSpec := { name := "fnParseDigitsConcat", fn := fun _ => fun
  | [d1, d2] => { results := [.lit (.bool false)], args := [d1, d2] }
  | _ => none }
def FnParseDigitsConcatWrongFalsely : Prop := fnParseDigitsConcatRow.holds Try.pinned (OpenSpec.ofChange fnParseDigitsConcatWrong)

end Rows
end Go.Proofs.Qxb6628885a
