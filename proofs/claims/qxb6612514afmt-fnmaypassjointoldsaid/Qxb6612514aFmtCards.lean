/-
  DERIVED. GIVEN WITH THE SEED: THE CARDS: each row of Qxb6612514aFmtRows.lean that lists a variable, with what it lists TIED to the program's text (the seventh form; the later family's looks); each row that meets fmt, with fmt's text TOLD by the authors' own Lean function (tested against real Go, not proved from fmt's source: count such statements apart). THE CARD IS WHAT COUNTS. Prove the row's statement (the work); the ties are given (Qxb6612514aFmtTie.lean); close each card by the builder's one call (the guide's Derived/Test/ToyasCard.lean, 'card_holds'). Laid BY PROGRAM, IN A SANDBOX (cutbox-door.mjs). By AI agents, Wed Nov 11 2026. No macro, syntax, notation, axiom, sorry.
-/
import Derived.Test.Qxb6612514aFmtRows
import GoSem.ClaimSeven
namespace Go.Proofs.Qxb6612514aFmt
namespace Rows

/-- THE TOLD AND TIED CARD OF 'zzlaws_root_b1.FnMayPassClass'. -/
def fnMayPassClassCard : Claim7 := { stood := { row := fnMayPassClassRow, standIns := [], harness := (true, "a6955417ee4c4cdd2a5167e88f7a866984fc410647871d635be9c92467671929"), looks := true }, told := true, laidByText := true, laidKinds := [.sentinel, .sentinel, .sentinel], laidTests := true, laidLooks := .later, goes := false }
def FnMayPassClassToldSaid : Prop := Claim7.holds Tryf.pinned (.plain (OpenSpec.ofChange fnMayPassClassSpec)) fnMayPassClassCard
/-- ITS FALSE NEIGHBOUR. Refute it at one input. -/
def FnMayPassClassToldWrongFalsely : Prop := Claim7.holds Tryf.pinned (.plain (OpenSpec.ofChange fnMayPassClassWrong)) fnMayPassClassCard

/-- THE TOLD AND TIED CARD OF 'zzlaws_root_b1.FnMayPassJoin'. -/
def fnMayPassJoinCard : Claim7 := { stood := { row := fnMayPassJoinRow, standIns := [], harness := (true, "a6955417ee4c4cdd2a5167e88f7a866984fc410647871d635be9c92467671929"), looks := true }, told := true, laidByText := true, laidKinds := [.sentinel, .sentinel, .sentinel], laidTests := true, laidLooks := .later, goes := false }
def FnMayPassJoinToldSaid : Prop := Claim7.holds Tryf.pinned (.plain (OpenSpec.ofChange fnMayPassJoinSpec)) fnMayPassJoinCard
/-- ITS FALSE NEIGHBOUR. Refute it at one input. -/
def FnMayPassJoinToldWrongFalsely : Prop := Claim7.holds Tryf.pinned (.plain (OpenSpec.ofChange fnMayPassJoinWrong)) fnMayPassJoinCard

/-- THE TOLD AND TIED CARD OF 'zzlaws_root_b1.FnFollowUpScript'. -/
def fnFollowUpScriptCard : Claim7 := { stood := { row := fnFollowUpScriptRow, standIns := [], harness := (true, "a6955417ee4c4cdd2a5167e88f7a866984fc410647871d635be9c92467671929"), looks := true }, told := true, laidByText := true, laidKinds := [.sentinel], laidTests := true, laidLooks := .later, goes := false }
def FnFollowUpScriptToldSaid : Prop := Claim7.holds Tryf.pinned (.plain (OpenSpec.ofChange fnFollowUpScriptSpec)) fnFollowUpScriptCard
/-- ITS FALSE NEIGHBOUR. Refute it at one input. -/
def FnFollowUpScriptToldWrongFalsely : Prop := Claim7.holds Tryf.pinned (.plain (OpenSpec.ofChange fnFollowUpScriptWrong)) fnFollowUpScriptCard
end Rows
end Go.Proofs.Qxb6612514aFmt
