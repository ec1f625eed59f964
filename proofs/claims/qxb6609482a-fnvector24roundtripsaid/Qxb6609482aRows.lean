/-
  No cell of these rows narrows 'for every input' (looked for: loops, veiled, ifaces, maps, wideKeys, modest, calm, conditions, laid).
  DERIVED. THE GIVEN ROWS OF THIS SEAT. 2 by the template 'for every input the law returns true; each argument reads behind the call as it read before'; 0 by the template 'total and deterministic' (their statements: Qxb6609482aTotals.lean).
  GIVEN WITH THE SEED: the statements are not yours to turn. If you find one false, say at which input.
  Laid BY PROGRAM, IN A SANDBOX (cutbox-rows.mjs): the forced cells as the released guide's own fill.sh prints them over the translation 5677d7bf8c61d419… (all of the seat's roots in one cut). By AI agents, Wed Nov 11 2026. No macro, syntax, notation, axiom, sorry.
-/
import Derived.Test.Qxb6609482aChecked
import GoSem.Claim
import GoSem.ClaimJoined
import GoSem.ClaimMapViews
import Derived.JoinedTies
import Derived.KernelRfl
namespace Go.Proofs.Qxb6609482a
/- THE CELL 'sum', in the pinned program and in every row, IS THE sha256 OF THE DUMP (.gsa) THAT Qxb6609482aProg.lean LOADS. Nothing in Lean hashes anything: it is a label: what it is worth is what the hold of that sum in a sandbox is worth. -/
noncomputable def Try.pinned : Pinned := { name := "qxb6609482a", sum := "5677d7bf8c61d41994b0cf225c2f64bae4a35db2a4ef68a4a88e7b110f3b007f", checked := Try.checked }
namespace Rows
def none {H : Type} : Left H := { results := [], args := [] }

/-- 'zzlaws_root_b1.FnVector24RoundTrip': WHATEVER THE INPUT: true; the input reads as it did. -/
def fnVector24RoundTripSpec : ChangeSpec := { name := "fnVector24RoundTrip", fn := fun _ => fun
  | [d1, d2] => { results := [.lit (.bool true)], args := [d1, d2] }
  | _ => none }
def fnVector24RoundTripRow : OpenClaim := { program := "qxb6609482a", sum := "5677d7bf8c61d41994b0cf225c2f64bae4a35db2a4ef68a4a88e7b110f3b007f", func := "example.com/handclasp/handclasp/zzlaws_root_b1.FnVector24RoundTrip", spec := "fnVector24RoundTrip", apart := false }
def FnVector24RoundTripSaid : Prop := fnVector24RoundTripRow.holds Try.pinned (OpenSpec.ofChange fnVector24RoundTripSpec)

/-- ITS FALSE NEIGHBOUR: 'it returns false'. Refute it at one input. -/
def fnVector24RoundTripWrong : ChangeSpec := { name := "fnVector24RoundTrip", fn := fun _ => fun
  | [d1, d2] => { results := [.lit (.bool false)], args := [d1, d2] }
  | _ => none }
def FnVector24RoundTripWrongFalsely : Prop := fnVector24RoundTripRow.holds Try.pinned (OpenSpec.ofChange fnVector24RoundTripWrong)

/-- 'zzlaws_root_b1.FnVector24ExactCases': WHATEVER THE INPUT: true; the input reads as it did. -/
def fnVector24ExactCasesSpec : ChangeSpec := { name := "fnVector24ExactCases", fn := fun _ => fun
  | [d1, d2] => { results := [.lit (.bool true)], args := [d1, d2] }
  | _ => none }
def fnVector24ExactCasesRow : OpenClaim := { program := "qxb6609482a", sum := "5677d7bf8c61d41994b0cf225c2f64bae4a35db2a4ef68a4a88e7b110f3b007f", func := "example.com/handclasp/handclasp/zzlaws_root_b1.FnVector24ExactCases", spec := "fnVector24ExactCases", apart := false }
def FnVector24ExactCasesSaid : Prop := fnVector24ExactCasesRow.holds Try.pinned (OpenSpec.ofChange fnVector24ExactCasesSpec)

/-- ITS FALSE NEIGHBOUR: 'it returns false'. Refute it at one input. -/
def fnVector24ExactCasesWrong : ChangeSpec := { name := "fnVector24ExactCases", fn := fun _ => fun
  | [d1, d2] => { results := [.lit (.bool false)], args := [d1, d2] }
  | _ => none }
def FnVector24ExactCasesWrongFalsely : Prop := fnVector24ExactCasesRow.holds Try.pinned (OpenSpec.ofChange fnVector24ExactCasesWrong)

end Rows
end Go.Proofs.Qxb6609482a
