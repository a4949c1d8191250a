/-
  No cell of these rows narrows 'for every input' (looked for: loops, veiled, ifaces, maps, wideKeys, modest, calm, conditions, laid).
  DERIVED. THE GIVEN ROWS OF THIS SEAT. 2 by the template 'for every input the law returns true; each argument reads behind the call as it read before'; 0 by the template 'total and deterministic' (their statements: Qxb6628846aTotals.lean).
  GIVEN WITH THE SEED: the statements are not yours to turn. If you find one false, say at which input.
  Laid BY PROGRAM, IN A SANDBOX (cutbox-rows.mjs): the forced cells as the released guide's own fill.sh prints them over the translation 05d0c68dcfbd1af1… (all of the seat's roots in one cut). By AI agents, Wed Nov 11 2026. No macro, syntax, notation, axiom, sorry.
-/
import Derived.Test.Qxb6628846aChecked
import GoSem.Claim
import GoSem.ClaimJoined
import GoSem.ClaimMapViews
import Derived.JoinedTies
import Derived.KernelRfl
namespace Go.Proofs.Qxb6628846a
/- THE CELL 'sum', in the pinned program and in every row, IS THE sha256 OF THE DUMP (.gsa) THAT Qxb6628846aProg.lean LOADS. Nothing in Lean hashes anything: it is a label: what it is worth is what the hold of that sum in a sandbox is worth. -/
noncomputable def Try.pinned : Pinned := { name := "qxb6628846a", sum := "05d0c68dcfbd1af19103b3d0611b3005b063e5df56b2d6a2e4a9d18ee4baea7c", checked := Try.checked }
namespace Rows
def none {H : Type} : Left H := { results := [], args := [] }

/-- 'zzlaws_internal_cc_lock_b1.FnGrantMatchesPairListModel': WHATEVER THE INPUT: true; the input reads as it did. -/
def fnGrantMatchesPairListModelSpec : ChangeSpec := { name := "fnGrantMatchesPairListModel", fn := fun _ => fun
  | [d1, d2, d3] => { results := [.lit (.bool true)], args := [d1, d2, d3] }
  | _ => none }
def fnGrantMatchesPairListModelRow : OpenClaim := { program := "qxb6628846a", sum := "05d0c68dcfbd1af19103b3d0611b3005b063e5df56b2d6a2e4a9d18ee4baea7c", func := "example.com/slackwise/slackwise/zzlaws_internal_cc_lock_b1.FnGrantMatchesPairListModel", spec := "fnGrantMatchesPairListModel", apart := false }
def FnGrantMatchesPairListModelSaid : Prop := fnGrantMatchesPairListModelRow.holds Try.pinned (OpenSpec.ofChange fnGrantMatchesPairListModelSpec)

/-- ITS FALSE NEIGHBOUR: 'it returns false'. Refute it at one input. -/
def fnGrantMatchesPairListModelWrong : ChangeSpec := { name := "fnGrantMatchesPairListModel", fn := fun _ => fun
  | [d1, d2, d3] => { results := [.lit (.bool false)], args := [d1, d2, d3] }
  | _ => none }
def FnGrantMatchesPairListModelWrongFalsely : Prop := fnGrantMatchesPairListModelRow.holds Try.pinned (OpenSpec.ofChange fnGrantMatchesPairListModelWrong)

/-- 'zzlaws_internal_cc_lock_b1.FnGrantReplayIsIdempotentAndKeepsStrongest': WHATEVER THE INPUT: true; the input reads as it did. -/
def fnGrantReplayIsIdempotentAndKeepsStrongestSpec : ChangeSpec := { name := "fnGrantReplayIsIdempotentAndKeepsStrongest", fn := fun _ => fun
  | [d1, d2, d3] => { results := [.lit (.bool true)], args := [d1, d2, d3] }
  | _ => none }
def fnGrantReplayIsIdempotentAndKeepsStrongestRow : OpenClaim := { program := "qxb6628846a", sum := "05d0c68dcfbd1af19103b3d0611b3005b063e5df56b2d6a2e4a9d18ee4baea7c", func := "example.com/slackwise/slackwise/zzlaws_internal_cc_lock_b1.FnGrantReplayIsIdempotentAndKeepsStrongest", spec := "fnGrantReplayIsIdempotentAndKeepsStrongest", apart := false }
def FnGrantReplayIsIdempotentAndKeepsStrongestSaid : Prop := fnGrantReplayIsIdempotentAndKeepsStrongestRow.holds Try.pinned (OpenSpec.ofChange fnGrantReplayIsIdempotentAndKeepsStrongestSpec)

/-- ITS FALSE NEIGHBOUR: 'it returns false'. Refute it at one input. -/
def fnGrantReplayIsIdempotentAndKeepsStrongestWrong : ChangeSpec := { name := "fnGrantReplayIsIdempotentAndKeepsStrongest", fn := fun _ => fun
  | [d1, d2, d3] => { results := [.lit (.bool false)], args := [d1, d2, d3] }
  | _ => none }
def FnGrantReplayIsIdempotentAndKeepsStrongestWrongFalsely : Prop := fnGrantReplayIsIdempotentAndKeepsStrongestRow.holds Try.pinned (OpenSpec.ofChange fnGrantReplayIsIdempotentAndKeepsStrongestWrong)

end Rows
end Go.Proofs.Qxb6628846a
