/-
  No cell of these rows narrows 'for every input' (looked for: loops, veiled, ifaces, maps, wideKeys, modest, calm, conditions, laid).
  DERIVED. THE GIVEN ROWS OF THIS SEAT. 2 by the template 'for every input the law returns true; each argument reads behind the call as it read before'; 0 by the template 'total and deterministic' (their statements: Qxb6628786aTotals.lean).
  GIVEN WITH THE SEED: the statements are not yours to turn. If you find one false, say at which input.
  Laid BY PROGRAM, IN A SANDBOX (cutbox-rows.mjs): the forced cells as the released guide's own fill.sh prints them over the translation 707277b4d5d3b985… (all of the seat's roots in one cut). By AI agents, Wed Nov 11 2026. No macro, syntax, notation, axiom, sorry.
-/
import Derived.Test.Qxb6628786aChecked
import GoSem.Claim
import GoSem.ClaimJoined
import GoSem.ClaimMapViews
import Derived.JoinedTies
import Derived.KernelRfl
namespace Go.Proofs.Qxb6628786a
/- THE CELL 'sum', in the pinned program and in every row, IS THE sha256 OF THE DUMP (.gsa) THAT Qxb6628786aProg.lean LOADS. Nothing in Lean hashes anything: it is a label: what it is worth is what the hold of that sum in a sandbox is worth. -/
noncomputable def Try.pinned : Pinned := { name := "qxb6628786a", sum := "707277b4d5d3b9858c40ff1d49fcfa7ae5d9b10c302397d9dd92807e77f459a4", checked := Try.checked }
namespace Rows
def none {H : Type} : Left H := { results := [], args := [] }

/-- 'zzlaws_terms_b1.FnPairsFreshRuledEvent': WHATEVER THE INPUT: true; the input reads as it did. -/
def fnPairsFreshRuledEventSpec : ChangeSpec := { name := "fnPairsFreshRuledEvent", fn := fun _ => fun
  | [d1, d2, d3, d4, d5, d6, d7] => { results := [.lit (.bool true)], args := [d1, d2, d3, d4, d5, d6, d7] }
  | _ => none }
def fnPairsFreshRuledEventRow : OpenClaim := { program := "qxb6628786a", sum := "707277b4d5d3b9858c40ff1d49fcfa7ae5d9b10c302397d9dd92807e77f459a4", func := "example.com/zhaomu/zhaomu/zzlaws_terms_b1.FnPairsFreshRuledEvent", spec := "fnPairsFreshRuledEvent", apart := false }
def FnPairsFreshRuledEventSaid : Prop := fnPairsFreshRuledEventRow.holds Try.pinned (OpenSpec.ofChange fnPairsFreshRuledEventSpec)

/-- ITS FALSE NEIGHBOUR: 'it returns false'. Refute it at one input. -/
def fnPairsFreshRuledEventWrong : ChangeSpec := { name := "fnPairsFreshRuledEvent", fn := fun _ => fun
  | [d1, d2, d3, d4, d5, d6, d7] => { results := [.lit (.bool false)], args := [d1, d2, d3, d4, d5, d6, d7] }
  | _ => none }
def FnPairsFreshRuledEventWrongFalsely : Prop := fnPairsFreshRuledEventRow.holds Try.pinned (OpenSpec.ofChange fnPairsFreshRuledEventWrong)

/-- 'zzlaws_terms_b1.FnPairsAnnouncedStandsForLatest': WHATEVER THE INPUT: true; the input reads as it did. -/
def fnPairsAnnouncedStandsForLatestSpec : ChangeSpec := { name := "fnPairsAnnouncedStandsForLatest", fn := fun _ => fun
  | [d1, d2, d3, d4, d5, d6, d7, d8] => { results := [.lit (.bool true)], args := [d1, d2, d3, d4, d5, d6, d7, d8] }
  | _ => none }
def fnPairsAnnouncedStandsForLatestRow : OpenClaim := { program := "qxb6628786a", sum := "707277b4d5d3b9858c40ff1d49fcfa7ae5d9b10c302397d9dd92807e77f459a4", func := "example.com/zhaomu/zhaomu/zzlaws_terms_b1.FnPairsAnnouncedStandsForLatest", spec := "fnPairsAnnouncedStandsForLatest", apart := false }
def FnPairsAnnouncedStandsForLatestSaid : Prop := fnPairsAnnouncedStandsForLatestRow.holds Try.pinned (OpenSpec.ofChange fnPairsAnnouncedStandsForLatestSpec)

/-- ITS FALSE NEIGHBOUR: 'it returns false'. Refute it at one input. -/
def fnPairsAnnouncedStandsForLatestWrong : ChangeSpec := { name := "fnPairsAnnouncedStandsForLatest", fn := fun _ => fun
  | [d1, d2, d3, d4, d5, d6, d7, d8] => { results := [.lit (.bool false)], args := [d1, d2, d3, d4, d5, d6, d7, d8] }
  | _ => none }
def FnPairsAnnouncedStandsForLatestWrongFalsely : Prop := fnPairsAnnouncedStandsForLatestRow.holds Try.pinned (OpenSpec.ofChange fnPairsAnnouncedStandsForLatestWrong)

end Rows
end Go.Proofs.Qxb6628786a
