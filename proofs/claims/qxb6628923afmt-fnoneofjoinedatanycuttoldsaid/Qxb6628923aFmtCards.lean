/-
  DERIVED. GIVEN WITH THE SEED: THE CARDS: each row of Qxb6628923aFmtRows.lean that lists a variable, with what it lists TIED to the program's text (the seventh form; the later family's looks); each row that meets fmt, with fmt's text TOLD by the authors' own Lean function (tested against real Go, not proved from fmt's source: count such statements apart). THE CARD IS WHAT COUNTS. Prove the row's statement (the work); the ties are given (Qxb6628923aFmtTie.lean); close each card by the builder's one call (the guide's Derived/Test/ToyasCard.lean, 'card_holds'). Laid BY PROGRAM, IN A SANDBOX (cutbox-door.mjs). By AI agents, Wed Nov 11 2026. No macro, syntax, notation, axiom, sorry.
-/
import Derived.Test.Qxb6628923aFmtRows
import GoSem.ClaimSeven
namespace Go.Proofs.Qxb6628923aFmt
namespace Rows

/-- THE TOLD CARD OF 'zzlaws_pkg_document_b1.FnOneOfIsFirstMatchOrFaultAtKey'. -/
def fnOneOfIsFirstMatchOrFaultAtKeyCard : Claim7 := { stood := { row := fnOneOfIsFirstMatchOrFaultAtKeyRow, standIns := [], harness := (true, "64011c4b49526f37f79e1aa25588791a245e53a46f0152e65c4e21e6784dd210"), looks := true }, told := true, goes := false }
def FnOneOfIsFirstMatchOrFaultAtKeyToldSaid : Prop := Claim7.holds Tryf.pinned (.plain (OpenSpec.ofChange fnOneOfIsFirstMatchOrFaultAtKeySpec)) fnOneOfIsFirstMatchOrFaultAtKeyCard
/-- ITS FALSE NEIGHBOUR. Refute it at one input. -/
def FnOneOfIsFirstMatchOrFaultAtKeyToldWrongFalsely : Prop := Claim7.holds Tryf.pinned (.plain (OpenSpec.ofChange fnOneOfIsFirstMatchOrFaultAtKeyWrong)) fnOneOfIsFirstMatchOrFaultAtKeyCard

/-- THE TOLD CARD OF 'zzlaws_pkg_document_b1.FnOneOfJoinedAtAnyCut'. -/
def fnOneOfJoinedAtAnyCutCard : Claim7 := { stood := { row := fnOneOfJoinedAtAnyCutRow, standIns := [], harness := (true, "64011c4b49526f37f79e1aa25588791a245e53a46f0152e65c4e21e6784dd210"), looks := true }, told := true, goes := false }
def FnOneOfJoinedAtAnyCutToldSaid : Prop := Claim7.holds Tryf.pinned (.plain (OpenSpec.ofChange fnOneOfJoinedAtAnyCutSpec)) fnOneOfJoinedAtAnyCutCard
/-- ITS FALSE NEIGHBOUR. Refute it at one input. -/
def FnOneOfJoinedAtAnyCutToldWrongFalsely : Prop := Claim7.holds Tryf.pinned (.plain (OpenSpec.ofChange fnOneOfJoinedAtAnyCutWrong)) fnOneOfJoinedAtAnyCutCard
end Rows
end Go.Proofs.Qxb6628923aFmt
