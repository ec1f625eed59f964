/-
  No cell of these rows narrows 'for every input' (looked for: loops, veiled, ifaces, maps, wideKeys, modest, calm, conditions, laid).
  DERIVED. THE GIVEN ROWS OF THIS SEAT. 2 by the template 'for every input the law returns true; each argument reads behind the call as it read before'; 0 by the template 'total and deterministic' (their statements: Qxb6613802aTotals.lean).
  GIVEN WITH THE SEED: the statements are not yours to turn. If you find one false, say at which input.
  Laid BY PROGRAM, IN A SANDBOX (cutbox-rows.mjs): the forced cells as the released guide's own fill.sh prints them over the translation fa947d657442c479… (all of the seat's roots in one cut). By AI agents, Wed Nov 11 2026. No macro, syntax, notation, axiom, sorry.
-/
import Derived.Test.Qxb6613802aChecked
import GoSem.Claim
import GoSem.ClaimJoined
import GoSem.ClaimMapViews
import Derived.JoinedTies
import Derived.KernelRfl
namespace Go.Proofs.Qxb6613802a
/- THE CELL 'sum', in the pinned program and in every row, IS THE sha256 OF THE DUMP (.gsa) THAT Qxb6613802aProg.lean LOADS. Nothing in Lean hashes anything: it is a label: what it is worth is what the hold of that sum in a sandbox is worth. -/
noncomputable def Try.pinned : Pinned := { name := "qxb6613802a", sum := "fa947d657442c479307ea91cdabf50b25ba90ec0f17c29aaaacd2815412348eb", checked := Try.checked }
namespace Rows
def none {H : Type} : Left H := { results := [], args := [] }

/-- 'zzlaws_internal_engine_b1.FnRingPopDropsTheOldest': WHATEVER THE INPUT: true; the input reads as it did. -/
def fnRingPopDropsTheOldestSpec : ChangeSpec := { name := "fnRingPopDropsTheOldest", fn := fun _ => fun
  | [d1, d2, d3, d4] => { results := [.lit (.bool true)], args := [d1, d2, d3, d4] }
  | _ => none }
def fnRingPopDropsTheOldestRow : OpenClaim := { program := "qxb6613802a", sum := "fa947d657442c479307ea91cdabf50b25ba90ec0f17c29aaaacd2815412348eb", func := "example.com/backlogic/backlogic/zzlaws_internal_engine_b1.FnRingPopDropsTheOldest", spec := "fnRingPopDropsTheOldest", apart := false }
def FnRingPopDropsTheOldestSaid : Prop := fnRingPopDropsTheOldestRow.holds Try.pinned (OpenSpec.ofChange fnRingPopDropsTheOldestSpec)

/-- ITS FALSE NEIGHBOUR: 'it returns false'. Refute it at one input. -/
def fnRingPopDropsTheOldestWrong : ChangeSpec := { name := "fnRingPopDropsTheOldest", fn := fun _ => fun
  | [d1, d2, d3, d4] => { results := [.lit (.bool false)], args := [d1, d2, d3, d4] }
  | _ => none }
def FnRingPopDropsTheOldestWrongFalsely : Prop := fnRingPopDropsTheOldestRow.holds Try.pinned (OpenSpec.ofChange fnRingPopDropsTheOldestWrong)

/-- 'zzlaws_internal_engine_b1.FnDecidesAtEveryMultipleOnly': WHATEVER THE INPUT: true; the input reads as it did. -/
def fnDecidesAtEveryMultipleOnlySpec : ChangeSpec := { name := "fnDecidesAtEveryMultipleOnly", fn := fun _ => fun
  | [d1, d2, d3] => { results := [.lit (.bool true)], args := [d1, d2, d3] }
  | _ => none }
def fnDecidesAtEveryMultipleOnlyRow : OpenClaim := { program := "qxb6613802a", sum := "fa947d657442c479307ea91cdabf50b25ba90ec0f17c29aaaacd2815412348eb", func := "example.com/backlogic/backlogic/zzlaws_internal_engine_b1.FnDecidesAtEveryMultipleOnly", spec := "fnDecidesAtEveryMultipleOnly", apart := false }
def FnDecidesAtEveryMultipleOnlySaid : Prop := fnDecidesAtEveryMultipleOnlyRow.holds Try.pinned (OpenSpec.ofChange fnDecidesAtEveryMultipleOnlySpec)

/-- ITS FALSE NEIGHBOUR: 'it returns false'. Refute it at one input. -/
def fnDecidesAtEveryMultipleOnlyWrong : ChangeSpec := { name := "fnDecidesAtEveryMultipleOnly", fn := fun _ => fun
  | [d1, d2, d3] => { results := [.lit (.bool false)], args := [d1, d2, d3] }
  | _ => none }
def FnDecidesAtEveryMultipleOnlyWrongFalsely : Prop := fnDecidesAtEveryMultipleOnlyRow.holds Try.pinned (OpenSpec.ofChange fnDecidesAtEveryMultipleOnlyWrong)

end Rows
end Go.Proofs.Qxb6613802a
