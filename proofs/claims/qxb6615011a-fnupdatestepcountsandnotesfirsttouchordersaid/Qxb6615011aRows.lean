/-
  No cell of these rows narrows 'for every input' (looked for: loops, veiled, ifaces, maps, wideKeys, modest, calm, conditions, laid).
  DERIVED. THE GIVEN ROWS OF THIS SEAT. 1 by the template 'for every input the law returns true; each argument reads behind the call as it read before'; 0 by the template 'total and deterministic' (their statements: Qxb6615011aTotals.lean).
  GIVEN WITH THE SEED: the statements are not yours to turn. If you find one false, say at which input.
  Laid BY PROGRAM, IN A SANDBOX (cutbox-rows.mjs): the forced cells as the released guide's own fill.sh prints them over the translation 6d12e178d2e52ce1… (all of the seat's roots in one cut). By AI agents, Wed Nov 11 2026. No macro, syntax, notation, axiom, sorry.
-/
import Derived.Test.Qxb6615011aChecked
import GoSem.Claim
import GoSem.ClaimJoined
import GoSem.ClaimMapViews
import Derived.JoinedTies
import Derived.KernelRfl
namespace Go.Proofs.Qxb6615011a
/- THE CELL 'sum', in the pinned program and in every row, IS THE sha256 OF THE DUMP (.gsa) THAT Qxb6615011aProg.lean LOADS. Nothing in Lean hashes anything: it is a label: what it is worth is what the hold of that sum in a sandbox is worth. -/
noncomputable def Try.pinned : Pinned := { name := "qxb6615011a", sum := "6d12e178d2e52ce1e7c63fb4f66f6450f208d3996d4ab2c4d686a4a95875616f", checked := Try.checked }
namespace Rows
def none {H : Type} : Left H := { results := [], args := [] }

/-- 'zzlaws_pkg_saga_b1.FnUpdateStepCountsAndNotesFirstTouchOrder': WHATEVER THE INPUT: true; the input reads as it did. -/
def fnUpdateStepCountsAndNotesFirstTouchOrderSpec : ChangeSpec := { name := "fnUpdateStepCountsAndNotesFirstTouchOrder", fn := fun _ => fun
  | [d1, d2] => { results := [.lit (.bool true)], args := [d1, d2] }
  | _ => none }
def fnUpdateStepCountsAndNotesFirstTouchOrderRow : OpenClaim := { program := "qxb6615011a", sum := "6d12e178d2e52ce1e7c63fb4f66f6450f208d3996d4ab2c4d686a4a95875616f", func := "example.com/counterstep/counterstep/zzlaws_pkg_saga_b1.FnUpdateStepCountsAndNotesFirstTouchOrder", spec := "fnUpdateStepCountsAndNotesFirstTouchOrder", inPlace := ["(*internal/sync.Mutex).Lock", "internal/race.Disable", "sync/atomic.CompareAndSwapInt32", "internal/race.Enable", "internal/race.Acquire", "(*internal/sync.Mutex).lockSlow", "internal/sync.runtime_canSpin", "internal/sync.runtime_doSpin", "internal/sync.throw", "internal/sync.runtime_nanotime", "internal/sync.runtime_SemacquireMutex", "sync/atomic.AddInt32", "(*internal/sync.Mutex).Unlock", "internal/race.ReleaseMerge", "(*internal/sync.Mutex).unlockSlow", "internal/sync.fatal", "internal/sync.runtime_Semrelease"], unfollowed := true, recurses := true, apart := false }
def FnUpdateStepCountsAndNotesFirstTouchOrderSaid : Prop := fnUpdateStepCountsAndNotesFirstTouchOrderRow.holds Try.pinned (OpenSpec.ofChange fnUpdateStepCountsAndNotesFirstTouchOrderSpec)

/-- ITS FALSE NEIGHBOUR: 'it returns false'. Refute it at one input. -/
def fnUpdateStepCountsAndNotesFirstTouchOrderWrong : ChangeSpec := { name := "fnUpdateStepCountsAndNotesFirstTouchOrder", fn := fun _ => fun
  | [d1, d2] => { results := [.lit (.bool false)], args := [d1, d2] }
  | _ => none }
def FnUpdateStepCountsAndNotesFirstTouchOrderWrongFalsely : Prop := fnUpdateStepCountsAndNotesFirstTouchOrderRow.holds Try.pinned (OpenSpec.ofChange fnUpdateStepCountsAndNotesFirstTouchOrderWrong)

end Rows
end Go.Proofs.Qxb6615011a
