/-
  No cell of these rows narrows 'for every input' (looked for: loops, veiled, ifaces, maps, wideKeys, modest, calm, conditions, laid).
  DERIVED. THE GIVEN ROWS OF THIS SEAT. 2 by the template 'for every input the law returns true; each argument reads behind the call as it read before'; 0 by the template 'total and deterministic' (their statements: Qxb6609558aFmtTotals.lean).
  GIVEN WITH THE SEED: the statements are not yours to turn. If you find one false, say at which input.
  Laid BY PROGRAM, IN A SANDBOX (cutbox-rows.mjs): the forced cells as the released guide's own fill.sh prints them over the translation bef444cac726c30e… (all of the seat's roots in one cut). By AI agents, Wed Nov 11 2026. No macro, syntax, notation, axiom, sorry.
-/
import Derived.Test.Qxb6609558aFmtChecked
import GoSem.Claim
import GoSem.ClaimJoined
import GoSem.ClaimMapViews
import Derived.JoinedTies
import Derived.KernelRfl
namespace Go.Proofs.Qxb6609558aFmt
/- THE CELL 'sum', in the pinned program and in every row, IS THE sha256 OF THE DUMP (.gsa) THAT Qxb6609558aFmtProg.lean LOADS. Nothing in Lean hashes anything: it is a label: what it is worth is what the hold of that sum in a sandbox is worth. -/
noncomputable def Tryf.pinned : Pinned := { name := "qxb6609558afmt", sum := "bef444cac726c30e41ae932553720179a0ca0b4005b74136af567aacff41d244", checked := Tryf.checked }
namespace Rows
def none {H : Type} : Left H := { results := [], args := [] }

/-- 'zzlaws_root_b1.FnTakeExact': WHATEVER THE INPUT: true; the input reads as it did. -/
def fnTakeExactSpec : ChangeSpec := { name := "fnTakeExact", fn := fun _ => fun
  | [d1, d2, d3, d4, d5] => { results := [.lit (.bool true)], args := [d1, d2, d3, d4, d5] }
  | _ => none }
def fnTakeExactRow : OpenClaim := { program := "qxb6609558afmt", sum := "bef444cac726c30e41ae932553720179a0ca0b4005b74136af567aacff41d244", func := "example.com/betoken/betoken/zzlaws_root_b1.FnTakeExact", spec := "fnTakeExact", stops := ["fmt.errorf"], inPlace := ["fmt.errorf"], apart := false }
/-- NO THEOREM (fmt's text is open here; it may be false): for the released tool's asking of the row's closed facts alone. THE STATEMENT IS 'FnTakeExactToldSaid' (Qxb6609558aFmtCards.lean). -/
def FnTakeExactFormAsk : Prop := fnTakeExactRow.holds Tryf.pinned (OpenSpec.ofChange fnTakeExactSpec)

/-- ITS FALSE NEIGHBOUR: 'it returns false'. Refute it at one input. -/
def fnTakeExactWrong : ChangeSpec := { name := "fnTakeExact", fn := fun _ => fun
  | [d1, d2, d3, d4, d5] => { results := [.lit (.bool false)], args := [d1, d2, d3, d4, d5] }
  | _ => none }
def FnTakeExactWrongFormAsk : Prop := fnTakeExactRow.holds Tryf.pinned (OpenSpec.ofChange fnTakeExactWrong)

/-- 'zzlaws_root_b1.FnTakeOnceFailureSticks': WHATEVER THE INPUT: true; the input reads as it did. -/
def fnTakeOnceFailureSticksSpec : ChangeSpec := { name := "fnTakeOnceFailureSticks", fn := fun _ => fun
  | [d1, d2, d3, d4] => { results := [.lit (.bool true)], args := [d1, d2, d3, d4] }
  | _ => none }
def fnTakeOnceFailureSticksRow : OpenClaim := { program := "qxb6609558afmt", sum := "bef444cac726c30e41ae932553720179a0ca0b4005b74136af567aacff41d244", func := "example.com/betoken/betoken/zzlaws_root_b1.FnTakeOnceFailureSticks", spec := "fnTakeOnceFailureSticks", stops := ["fmt.errorf"], inPlace := ["fmt.errorf"], apart := false }
/-- NO THEOREM (fmt's text is open here; it may be false): for the released tool's asking of the row's closed facts alone. THE STATEMENT IS 'FnTakeOnceFailureSticksToldSaid' (Qxb6609558aFmtCards.lean). -/
def FnTakeOnceFailureSticksFormAsk : Prop := fnTakeOnceFailureSticksRow.holds Tryf.pinned (OpenSpec.ofChange fnTakeOnceFailureSticksSpec)

/-- ITS FALSE NEIGHBOUR: 'it returns false'. Refute it at one input. -/
def fnTakeOnceFailureSticksWrong : ChangeSpec := { name := "fnTakeOnceFailureSticks", fn := fun _ => fun
  | [d1, d2, d3, d4] => { results := [.lit (.bool false)], args := [d1, d2, d3, d4] }
  | _ => none }
def FnTakeOnceFailureSticksWrongFormAsk : Prop := fnTakeOnceFailureSticksRow.holds Tryf.pinned (OpenSpec.ofChange fnTakeOnceFailureSticksWrong)

end Rows
end Go.Proofs.Qxb6609558aFmt
