/-
  NARROWER THAN 'FOR EVERY INPUT', by the rows' own cells (each row's printed sentence says how): FnMayPassClass: ifaces, laid · FnMayPassJoin: ifaces, laid · FnFollowUpScript: ifaces, laid.
  DERIVED. THE GIVEN ROWS OF THIS SEAT. 3 by the template 'for every input the law returns true; each argument reads behind the call as it read before'; 0 by the template 'total and deterministic' (their statements: Qxb6612514aFmtTotals.lean).
  GIVEN WITH THE SEED: the statements are not yours to turn. If you find one false, say at which input.
  Laid BY PROGRAM, IN A SANDBOX (cutbox-rows.mjs): the forced cells as the released guide's own fill.sh prints them over the translation 341ca1670ec054bc… (all of the seat's roots in one cut). By AI agents, Wed Nov 11 2026. No macro, syntax, notation, axiom, sorry.
-/
import Derived.Test.Qxb6612514aFmtChecked
import GoSem.Claim
import GoSem.ClaimJoined
import GoSem.ClaimMapViews
import Derived.JoinedTies
import Derived.KernelRfl
namespace Go.Proofs.Qxb6612514aFmt
/- THE CELL 'sum', in the pinned program and in every row, IS THE sha256 OF THE DUMP (.gsa) THAT Qxb6612514aFmtProg.lean LOADS. Nothing in Lean hashes anything: it is a label: what it is worth is what the hold of that sum in a sandbox is worth. -/
noncomputable def Tryf.pinned : Pinned := { name := "qxb6612514afmt", sum := "341ca1670ec054bc9a66cb20bdce13becfedd62265d244e8de62081532ea5e95", checked := Tryf.checked }
namespace Rows
def none {H : Type} : Left H := { results := [], args := [] }

/- WHAT THE LISTED PACKAGE-LEVEL VARIABLES READ AS WHEN THE CALL BEGINS. Each datum BY PROGRAM (the guide's laid-datum.mjs) off the statement by which the dump's own 'gosem.cut.vars' lays the variable. In a bare row this is a premise. The card (Qxb6612514aFmtCards.lean) ties it to the program's text. -/
def laid_example_com_turnstone_turnstone_ErrNoRun {H : Type} : DataW H := .iface "*errors.errorString" (.ptr (.agg [.lit (.string [110, 111, 32, 114, 117, 110, 32, 105, 115, 32, 103, 111, 105, 110, 103])]))
def laid_example_com_turnstone_turnstone_ErrRateLimited {H : Type} : DataW H := .iface "*errors.errorString" (.ptr (.agg [.lit (.string [114, 97, 116, 101, 32, 108, 105, 109, 105, 116, 101, 100])]))
def laid_example_com_turnstone_turnstone_ErrTransient {H : Type} : DataW H := .iface "*errors.errorString" (.ptr (.agg [.lit (.string [116, 114, 97, 110, 115, 105, 101, 110, 116, 32, 102, 97, 105, 108, 117, 114, 101])]))

/-- 'zzlaws_root_b1.FnMayPassClass': WHATEVER THE INPUT: true; the input reads as it did. -/
def fnMayPassClassSpec : ChangeSpec := { name := "fnMayPassClass", vars := ["example.com/turnstone/turnstone.ErrRateLimited", "example.com/turnstone/turnstone.ErrTransient", "example.com/turnstone/turnstone.ErrNoRun"], fn := fun _ => fun
  | [d1, d2, g1, g2, g3] => { results := [.lit (.bool true)], args := [d1, d2], vars := [g1, g2, g3] }
  | _ => none }
def fnMayPassClassRow : OpenClaim := { program := "qxb6612514afmt", sum := "341ca1670ec054bc9a66cb20bdce13becfedd62265d244e8de62081532ea5e95", func := "example.com/turnstone/turnstone/zzlaws_root_b1.FnMayPassClass", spec := "fnMayPassClass", stops := ["fmt.errorf, its operands' methods called"], inPlace := ["fmt.errorf", "internal/reflectlite.TypeOf"], unfollowed := true, recurses := true, named := ["example.com/turnstone/turnstone.ErrRateLimited", "example.com/turnstone/turnstone.ErrTransient", "example.com/turnstone/turnstone.ErrNoRun"], ifaces := true, apart := false, laid := [("example.com/turnstone/turnstone.ErrNoRun", laid_example_com_turnstone_turnstone_ErrNoRun), ("example.com/turnstone/turnstone.ErrRateLimited", laid_example_com_turnstone_turnstone_ErrRateLimited), ("example.com/turnstone/turnstone.ErrTransient", laid_example_com_turnstone_turnstone_ErrTransient)] }
/-- NO THEOREM (fmt's text is open here; it may be false): for the released tool's asking of the row's closed facts alone. THE STATEMENT IS 'FnMayPassClassToldSaid' (Qxb6612514aFmtCards.lean). -/
def FnMayPassClassFormAsk : Prop := fnMayPassClassRow.holds Tryf.pinned (OpenSpec.ofChange fnMayPassClassSpec)

/-- ITS FALSE NEIGHBOUR: 'it returns false'. Refute it at one input. -/
def fnMayPassClassWrong : ChangeSpec := { name := "fnMayPassClass", vars := ["example.com/turnstone/turnstone.ErrRateLimited", "example.com/turnstone/turnstone.ErrTransient", "example.com/turnstone/turnstone.ErrNoRun"], fn := fun _ => fun
  | [d1, d2, g1, g2, g3] => { results := [.lit (.bool false)], args := [d1, d2], vars := [g1, g2, g3] }
  | _ => none }
def FnMayPassClassWrongFormAsk : Prop := fnMayPassClassRow.holds Tryf.pinned (OpenSpec.ofChange fnMayPassClassWrong)

/-- 'zzlaws_root_b1.FnMayPassJoin': WHATEVER THE INPUT: true; the input reads as it did. -/
def fnMayPassJoinSpec : ChangeSpec := { name := "fnMayPassJoin", vars := ["example.com/turnstone/turnstone.ErrRateLimited", "example.com/turnstone/turnstone.ErrTransient", "example.com/turnstone/turnstone.ErrNoRun"], fn := fun _ => fun
  | [d1, d2, d3, g1, g2, g3] => { results := [.lit (.bool true)], args := [d1, d2, d3], vars := [g1, g2, g3] }
  | _ => none }
def fnMayPassJoinRow : OpenClaim := { program := "qxb6612514afmt", sum := "341ca1670ec054bc9a66cb20bdce13becfedd62265d244e8de62081532ea5e95", func := "example.com/turnstone/turnstone/zzlaws_root_b1.FnMayPassJoin", spec := "fnMayPassJoin", stops := ["fmt.errorf, its operands' methods called"], inPlace := ["fmt.errorf", "internal/reflectlite.TypeOf"], unfollowed := true, recurses := true, named := ["example.com/turnstone/turnstone.ErrRateLimited", "example.com/turnstone/turnstone.ErrTransient", "example.com/turnstone/turnstone.ErrNoRun"], ifaces := true, apart := false, laid := [("example.com/turnstone/turnstone.ErrNoRun", laid_example_com_turnstone_turnstone_ErrNoRun), ("example.com/turnstone/turnstone.ErrRateLimited", laid_example_com_turnstone_turnstone_ErrRateLimited), ("example.com/turnstone/turnstone.ErrTransient", laid_example_com_turnstone_turnstone_ErrTransient)] }
/-- NO THEOREM (fmt's text is open here; it may be false): for the released tool's asking of the row's closed facts alone. THE STATEMENT IS 'FnMayPassJoinToldSaid' (Qxb6612514aFmtCards.lean). -/
def FnMayPassJoinFormAsk : Prop := fnMayPassJoinRow.holds Tryf.pinned (OpenSpec.ofChange fnMayPassJoinSpec)

/-- ITS FALSE NEIGHBOUR: 'it returns false'. Refute it at one input. -/
def fnMayPassJoinWrong : ChangeSpec := { name := "fnMayPassJoin", vars := ["example.com/turnstone/turnstone.ErrRateLimited", "example.com/turnstone/turnstone.ErrTransient", "example.com/turnstone/turnstone.ErrNoRun"], fn := fun _ => fun
  | [d1, d2, d3, g1, g2, g3] => { results := [.lit (.bool false)], args := [d1, d2, d3], vars := [g1, g2, g3] }
  | _ => none }
def FnMayPassJoinWrongFormAsk : Prop := fnMayPassJoinRow.holds Tryf.pinned (OpenSpec.ofChange fnMayPassJoinWrong)

/-- 'zzlaws_root_b1.FnFollowUpScript': WHATEVER THE INPUT: true; the input reads as it did. -/
def fnFollowUpScriptSpec : ChangeSpec := { name := "fnFollowUpScript", vars := ["example.com/turnstone/turnstone.ErrNoRun"], fn := fun _ => fun
  | [d1, d2, g1] => { results := [.lit (.bool true)], args := [d1, d2], vars := [g1] }
  | _ => none }
def fnFollowUpScriptRow : OpenClaim := { program := "qxb6612514afmt", sum := "341ca1670ec054bc9a66cb20bdce13becfedd62265d244e8de62081532ea5e95", func := "example.com/turnstone/turnstone/zzlaws_root_b1.FnFollowUpScript", spec := "fnFollowUpScript", stops := ["fmt.errorf, its operands' methods called"], inPlace := ["(*internal/sync.Mutex).Lock", "internal/race.Disable", "sync/atomic.CompareAndSwapInt32", "internal/race.Enable", "internal/race.Acquire", "(*internal/sync.Mutex).lockSlow", "internal/sync.runtime_canSpin", "internal/sync.runtime_doSpin", "internal/sync.throw", "internal/sync.runtime_nanotime", "internal/sync.runtime_SemacquireMutex", "sync/atomic.AddInt32", "(*internal/sync.Mutex).Unlock", "internal/race.ReleaseMerge", "(*internal/sync.Mutex).unlockSlow", "internal/sync.fatal", "internal/sync.runtime_Semrelease", "fmt.errorf", "internal/reflectlite.TypeOf"], unfollowed := true, recurses := true, named := ["example.com/turnstone/turnstone.ErrNoRun"], ifaces := true, apart := false, laid := [("example.com/turnstone/turnstone.ErrNoRun", laid_example_com_turnstone_turnstone_ErrNoRun)] }
/-- NO THEOREM (fmt's text is open here; it may be false): for the released tool's asking of the row's closed facts alone. THE STATEMENT IS 'FnFollowUpScriptToldSaid' (Qxb6612514aFmtCards.lean). -/
def FnFollowUpScriptFormAsk : Prop := fnFollowUpScriptRow.holds Tryf.pinned (OpenSpec.ofChange fnFollowUpScriptSpec)

/-- ITS FALSE NEIGHBOUR: 'it returns false'. Refute it at one input. -/
def fnFollowUpScriptWrong : ChangeSpec := { name := "fnFollowUpScript", vars := ["example.com/turnstone/turnstone.ErrNoRun"], fn := fun _ => fun
  | [d1, d2, g1] => { results := [.lit (.bool false)], args := [d1, d2], vars := [g1] }
  | _ => none }
def FnFollowUpScriptWrongFormAsk : Prop := fnFollowUpScriptRow.holds Tryf.pinned (OpenSpec.ofChange fnFollowUpScriptWrong)

end Rows
end Go.Proofs.Qxb6612514aFmt
