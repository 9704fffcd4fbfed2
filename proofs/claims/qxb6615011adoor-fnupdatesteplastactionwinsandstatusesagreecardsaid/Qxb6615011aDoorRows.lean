/-
  NARROWER THAN 'FOR EVERY INPUT', by the rows' own cells (each row's printed sentence says how): FnNewStepsFitAndFitsStepExact: laid · FnUpdateStepLastActionWinsAndStatusesAgree: laid.
  DERIVED. THE GIVEN ROWS OF THIS SEAT. 2 by the template 'for every input the law returns true; each argument reads behind the call as it read before'; 0 by the template 'total and deterministic' (their statements: Qxb6615011aDoorTotals.lean).
  GIVEN WITH THE SEED: the statements are not yours to turn. If you find one false, say at which input.
  Laid BY PROGRAM, IN A SANDBOX (cutbox-rows.mjs): the forced cells as the released guide's own fill.sh prints them over the translation 7a7aece2e93697c0… (all of the seat's roots in one cut). By AI agents, Wed Nov 11 2026. No macro, syntax, notation, axiom, sorry.
-/
import Derived.Test.Qxb6615011aDoorChecked
import GoSem.Claim
import GoSem.ClaimJoined
import GoSem.ClaimMapViews
import Derived.JoinedTies
import Derived.KernelRfl
namespace Go.Proofs.Qxb6615011aDoor
/- THE CELL 'sum', in the pinned program and in every row, IS THE sha256 OF THE DUMP (.gsa) THAT Qxb6615011aDoorProg.lean LOADS. Nothing in Lean hashes anything: it is a label: what it is worth is what the hold of that sum in a sandbox is worth. -/
noncomputable def Tryd.pinned : Pinned := { name := "qxb6615011adoor", sum := "7a7aece2e93697c0e620757066ac6dcc2c76a63096db991915e38ff14522bda8", checked := Tryd.checked }
namespace Rows
def none {H : Type} : Left H := { results := [], args := [] }

/- WHAT THE LISTED PACKAGE-LEVEL VARIABLES READ AS WHEN THE CALL BEGINS. Each datum BY PROGRAM (the guide's laid-datum.mjs) off the statement by which the dump's own 'gosem.cut.vars' lays the variable. In a bare row this is a premise. The card (Qxb6615011aDoorCards.lean) ties it to the program's text. -/
def laid_example_com_counterstep_counterstep_pkg_saga_actionStatuses {H : Type} : DataW H := .slice [.lit (.string [78, 79, 84, 95, 82, 85, 78]), .lit (.string [82, 85, 78, 78, 73, 78, 71]), .lit (.string [83, 85, 67, 67, 69, 69, 68, 69, 68]), .lit (.string [70, 65, 73, 76, 69, 68]), .lit (.string [85, 78, 75, 78, 79, 87, 78])] []

/-- 'zzlaws_pkg_saga_b1.FnNewStepsFitAndFitsStepExact': WHATEVER THE INPUT: true; the input reads as it did. -/
def fnNewStepsFitAndFitsStepExactSpec : ChangeSpec := { name := "fnNewStepsFitAndFitsStepExact", vars := ["example.com/counterstep/counterstep/pkg/saga.actionStatuses"], fn := fun _ => fun
  | [d1, d2, d3, d4, d5, d6, d7, g1] => { results := [.lit (.bool true)], args := [d1, d2, d3, d4, d5, d6, d7], vars := [g1] }
  | _ => none }
def fnNewStepsFitAndFitsStepExactRow : OpenClaim := { program := "qxb6615011adoor", sum := "7a7aece2e93697c0e620757066ac6dcc2c76a63096db991915e38ff14522bda8", func := "example.com/counterstep/counterstep/zzlaws_pkg_saga_b1.FnNewStepsFitAndFitsStepExact", spec := "fnNewStepsFitAndFitsStepExact", named := ["example.com/counterstep/counterstep/pkg/saga.actionStatuses"], apart := false, laid := [("example.com/counterstep/counterstep/pkg/saga.actionStatuses", laid_example_com_counterstep_counterstep_pkg_saga_actionStatuses)] }
def FnNewStepsFitAndFitsStepExactSaid : Prop := fnNewStepsFitAndFitsStepExactRow.holds Tryd.pinned (OpenSpec.ofChange fnNewStepsFitAndFitsStepExactSpec)

/-- ITS FALSE NEIGHBOUR: 'it returns false'. Refute it at one input. -/
def fnNewStepsFitAndFitsStepExactWrong : ChangeSpec := { name := "fnNewStepsFitAndFitsStepExact", vars := ["example.com/counterstep/counterstep/pkg/saga.actionStatuses"], fn := fun _ => fun
  | [d1, d2, d3, d4, d5, d6, d7, g1] => { results := [.lit (.bool false)], args := [d1, d2, d3, d4, d5, d6, d7], vars := [g1] }
  | _ => none }
def FnNewStepsFitAndFitsStepExactWrongFalsely : Prop := fnNewStepsFitAndFitsStepExactRow.holds Tryd.pinned (OpenSpec.ofChange fnNewStepsFitAndFitsStepExactWrong)

/-- 'zzlaws_pkg_saga_b1.FnUpdateStepLastActionWinsAndStatusesAgree': WHATEVER THE INPUT: true; the input reads as it did. -/
def fnUpdateStepLastActionWinsAndStatusesAgreeSpec : ChangeSpec := { name := "fnUpdateStepLastActionWinsAndStatusesAgree", vars := ["example.com/counterstep/counterstep/pkg/saga.actionStatuses"], fn := fun _ => fun
  | [d1, d2, d3, g1] => { results := [.lit (.bool true)], args := [d1, d2, d3], vars := [g1] }
  | _ => none }
def fnUpdateStepLastActionWinsAndStatusesAgreeRow : OpenClaim := { program := "qxb6615011adoor", sum := "7a7aece2e93697c0e620757066ac6dcc2c76a63096db991915e38ff14522bda8", func := "example.com/counterstep/counterstep/zzlaws_pkg_saga_b1.FnUpdateStepLastActionWinsAndStatusesAgree", spec := "fnUpdateStepLastActionWinsAndStatusesAgree", inPlace := ["(*internal/sync.Mutex).Lock", "internal/race.Disable", "sync/atomic.CompareAndSwapInt32", "internal/race.Enable", "internal/race.Acquire", "(*internal/sync.Mutex).lockSlow", "internal/sync.runtime_canSpin", "internal/sync.runtime_doSpin", "internal/sync.throw", "internal/sync.runtime_nanotime", "internal/sync.runtime_SemacquireMutex", "sync/atomic.AddInt32", "(*internal/sync.Mutex).Unlock", "internal/race.ReleaseMerge", "(*internal/sync.Mutex).unlockSlow", "internal/sync.fatal", "internal/sync.runtime_Semrelease"], unfollowed := true, recurses := true, named := ["example.com/counterstep/counterstep/pkg/saga.actionStatuses"], apart := false, laid := [("example.com/counterstep/counterstep/pkg/saga.actionStatuses", laid_example_com_counterstep_counterstep_pkg_saga_actionStatuses)] }
def FnUpdateStepLastActionWinsAndStatusesAgreeSaid : Prop := fnUpdateStepLastActionWinsAndStatusesAgreeRow.holds Tryd.pinned (OpenSpec.ofChange fnUpdateStepLastActionWinsAndStatusesAgreeSpec)

/-- ITS FALSE NEIGHBOUR: 'it returns false'. Refute it at one input. -/
def fnUpdateStepLastActionWinsAndStatusesAgreeWrong : ChangeSpec := { name := "fnUpdateStepLastActionWinsAndStatusesAgree", vars := ["example.com/counterstep/counterstep/pkg/saga.actionStatuses"], fn := fun _ => fun
  | [d1, d2, d3, g1] => { results := [.lit (.bool false)], args := [d1, d2, d3], vars := [g1] }
  | _ => none }
def FnUpdateStepLastActionWinsAndStatusesAgreeWrongFalsely : Prop := fnUpdateStepLastActionWinsAndStatusesAgreeRow.holds Tryd.pinned (OpenSpec.ofChange fnUpdateStepLastActionWinsAndStatusesAgreeWrong)

end Rows
end Go.Proofs.Qxb6615011aDoor
