/-
  No cell of these rows narrows 'for every input' (looked for: loops, veiled, ifaces, maps, wideKeys, modest, calm, conditions, laid).
  DERIVED. THE GIVEN ROWS OF THIS SEAT. 2 by the template 'for every input the law returns true; each argument reads behind the call as it read before'; 0 by the template 'total and deterministic' (their statements: Qxb6628923aFmtTotals.lean).
  GIVEN WITH THE SEED: the statements are not yours to turn. If you find one false, say at which input.
  Laid BY PROGRAM, IN A SANDBOX (cutbox-rows.mjs): the forced cells as the released guide's own fill.sh prints them over the translation b228d3d5f32c96cc… (all of the seat's roots in one cut). By AI agents, Wed Nov 11 2026. No macro, syntax, notation, axiom, sorry.
-/
import Derived.Test.Qxb6628923aFmtChecked
import GoSem.Claim
import GoSem.ClaimJoined
import GoSem.ClaimMapViews
import Derived.JoinedTies
import Derived.KernelRfl
namespace Go.Proofs.Qxb6628923aFmt
/- THE CELL 'sum', in the pinned program and in every row, IS THE sha256 OF THE DUMP (.gsa) THAT Qxb6628923aFmtProg.lean LOADS. Nothing in Lean hashes anything: it is a label: what it is worth is what the hold of that sum in a sandbox is worth. -/
noncomputable def Tryf.pinned : Pinned := { name := "qxb6628923afmt", sum := "b228d3d5f32c96cc1abfdfa06a161306b94255b12f577d963f43ee584172245b", checked := Tryf.checked }
namespace Rows
def none {H : Type} : Left H := { results := [], args := [] }

/-- 'zzlaws_pkg_document_b1.FnOneOfIsFirstMatchOrFaultAtKey': WHATEVER THE INPUT: true; the input reads as it did. -/
def fnOneOfIsFirstMatchOrFaultAtKeySpec : ChangeSpec := { name := "fnOneOfIsFirstMatchOrFaultAtKey", fn := fun _ => fun
  | [d1, d2, d3, d4, d5, d6, d7, d8] => { results := [.lit (.bool true)], args := [d1, d2, d3, d4, d5, d6, d7, d8] }
  | _ => none }
def fnOneOfIsFirstMatchOrFaultAtKeyRow : OpenClaim := { program := "qxb6628923afmt", sum := "b228d3d5f32c96cc1abfdfa06a161306b94255b12f577d963f43ee584172245b", func := "example.com/vestline/vestline/zzlaws_pkg_document_b1.FnOneOfIsFirstMatchOrFaultAtKey", spec := "fnOneOfIsFirstMatchOrFaultAtKey", stops := ["fmt.Sprintf, its operands' methods called"], inPlace := ["fmt.Sprintf", "internal/abi.NoEscape", "internal/bytealg.MakeNoZero"], unfollowed := true, recurses := true, apart := false }
/-- NO THEOREM (fmt's text is open here; it may be false): for the released tool's asking of the row's closed facts alone. THE STATEMENT IS 'FnOneOfIsFirstMatchOrFaultAtKeyToldSaid' (Qxb6628923aFmtCards.lean). -/
def FnOneOfIsFirstMatchOrFaultAtKeyFormAsk : Prop := fnOneOfIsFirstMatchOrFaultAtKeyRow.holds Tryf.pinned (OpenSpec.ofChange fnOneOfIsFirstMatchOrFaultAtKeySpec)

/-- ITS FALSE NEIGHBOUR: 'it returns false'. Refute it at one input. -/
def fnOneOfIsFirstMatchOrFaultAtKeyWrong : ChangeSpec := { name := "fnOneOfIsFirstMatchOrFaultAtKey", fn := fun _ => fun
  | [d1, d2, d3, d4, d5, d6, d7, d8] => { results := [.lit (.bool false)], args := [d1, d2, d3, d4, d5, d6, d7, d8] }
  | _ => none }
def FnOneOfIsFirstMatchOrFaultAtKeyWrongFormAsk : Prop := fnOneOfIsFirstMatchOrFaultAtKeyRow.holds Tryf.pinned (OpenSpec.ofChange fnOneOfIsFirstMatchOrFaultAtKeyWrong)

/-- 'zzlaws_pkg_document_b1.FnOneOfJoinedAtAnyCut': WHATEVER THE INPUT: true; the input reads as it did. -/
def fnOneOfJoinedAtAnyCutSpec : ChangeSpec := { name := "fnOneOfJoinedAtAnyCut", fn := fun _ => fun
  | [d1, d2, d3, d4, d5, d6, d7, d8, d9] => { results := [.lit (.bool true)], args := [d1, d2, d3, d4, d5, d6, d7, d8, d9] }
  | _ => none }
def fnOneOfJoinedAtAnyCutRow : OpenClaim := { program := "qxb6628923afmt", sum := "b228d3d5f32c96cc1abfdfa06a161306b94255b12f577d963f43ee584172245b", func := "example.com/vestline/vestline/zzlaws_pkg_document_b1.FnOneOfJoinedAtAnyCut", spec := "fnOneOfJoinedAtAnyCut", stops := ["fmt.Sprintf, its operands' methods called"], inPlace := ["fmt.Sprintf", "internal/abi.NoEscape", "internal/bytealg.MakeNoZero"], unfollowed := true, recurses := true, apart := false }
/-- NO THEOREM (fmt's text is open here; it may be false): for the released tool's asking of the row's closed facts alone. THE STATEMENT IS 'FnOneOfJoinedAtAnyCutToldSaid' (Qxb6628923aFmtCards.lean). -/
def FnOneOfJoinedAtAnyCutFormAsk : Prop := fnOneOfJoinedAtAnyCutRow.holds Tryf.pinned (OpenSpec.ofChange fnOneOfJoinedAtAnyCutSpec)

/-- ITS FALSE NEIGHBOUR: 'it returns false'. Refute it at one input. -/
def fnOneOfJoinedAtAnyCutWrong : ChangeSpec := { name := "fnOneOfJoinedAtAnyCut", fn := fun _ => fun
  | [d1, d2, d3, d4, d5, d6, d7, d8, d9] => { results := [.lit (.bool false)], args := [d1, d2, d3, d4, d5, d6, d7, d8, d9] }
  | _ => none }
def FnOneOfJoinedAtAnyCutWrongFormAsk : Prop := fnOneOfJoinedAtAnyCutRow.holds Tryf.pinned (OpenSpec.ofChange fnOneOfJoinedAtAnyCutWrong)

end Rows
end Go.Proofs.Qxb6628923aFmt
