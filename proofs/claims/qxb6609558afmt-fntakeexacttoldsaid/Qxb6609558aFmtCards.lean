/-
  DERIVED. GIVEN WITH THE SEED: THE CARDS: each row of Qxb6609558aFmtRows.lean that lists a variable, with what it lists TIED to the program's text (the seventh form; the later family's looks); each row that meets fmt, with fmt's text TOLD by the authors' own Lean function (tested against real Go, not proved from fmt's source: count such statements apart). THE CARD IS WHAT COUNTS. Prove the row's statement (the work); the ties are given (Qxb6609558aFmtTie.lean); close each card by the builder's one call (the guide's Derived/Test/ToyasCard.lean, 'card_holds'). Laid BY PROGRAM, IN A SANDBOX (cutbox-door.mjs). By AI agents, Wed Nov 11 2026. No macro, syntax, notation, axiom, sorry.
-/
import Derived.Test.Qxb6609558aFmtRows
import GoSem.ClaimSeven
namespace Go.Proofs.Qxb6609558aFmt
namespace Rows

/-- THE TOLD CARD OF 'zzlaws_root_b1.FnTakeExact'. -/
def fnTakeExactCard : Claim7 := { stood := { row := fnTakeExactRow, standIns := [], harness := (true, "e557bc7df0dcfef4bbe98aa5d8f813a9c6bf5ba7e41e5b1e1430eb18817131c4"), looks := true }, told := true, goes := false }
def FnTakeExactToldSaid : Prop := Claim7.holds Tryf.pinned (.plain (OpenSpec.ofChange fnTakeExactSpec)) fnTakeExactCard
/-- ITS FALSE NEIGHBOUR. Refute it at one input. -/
def FnTakeExactToldWrongFalsely : Prop := Claim7.holds Tryf.pinned (.plain (OpenSpec.ofChange fnTakeExactWrong)) fnTakeExactCard

/-- THE TOLD CARD OF 'zzlaws_root_b1.FnTakeOnceFailureSticks'. -/
def fnTakeOnceFailureSticksCard : Claim7 := { stood := { row := fnTakeOnceFailureSticksRow, standIns := [], harness := (true, "e557bc7df0dcfef4bbe98aa5d8f813a9c6bf5ba7e41e5b1e1430eb18817131c4"), looks := true }, told := true, goes := false }
def FnTakeOnceFailureSticksToldSaid : Prop := Claim7.holds Tryf.pinned (.plain (OpenSpec.ofChange fnTakeOnceFailureSticksSpec)) fnTakeOnceFailureSticksCard
/-- ITS FALSE NEIGHBOUR. Refute it at one input. -/
def FnTakeOnceFailureSticksToldWrongFalsely : Prop := Claim7.holds Tryf.pinned (.plain (OpenSpec.ofChange fnTakeOnceFailureSticksWrong)) fnTakeOnceFailureSticksCard
end Rows
end Go.Proofs.Qxb6609558aFmt
