/-
  DERIVED. GIVEN WITH THE SEED: THE CARDS: each row of Qxb6615011aDoorRows.lean that lists a variable, with what it lists TIED to the program's text (the seventh form; the later family's looks); each row that meets fmt, with fmt's text TOLD by the authors' own Lean function (tested against real Go, not proved from fmt's source: count such statements apart). THE CARD IS WHAT COUNTS. Prove the row's statement (the work); the ties are given (Qxb6615011aDoorTie.lean); close each card by the builder's one call (the guide's Derived/Test/ToyasCard.lean, 'card_holds'). Laid BY PROGRAM, IN A SANDBOX (cutbox-door.mjs). By AI agents, Wed Nov 11 2026. No macro, syntax, notation, axiom, sorry.
-/
import Derived.Test.Qxb6615011aDoorRows
import GoSem.ClaimSeven
namespace Go.Proofs.Qxb6615011aDoor
namespace Rows

/-- THE TIED CARD OF 'zzlaws_pkg_saga_b1.FnNewStepsFitAndFitsStepExact'. -/
def fnNewStepsFitAndFitsStepExactCard : Claim7 := { stood := { row := fnNewStepsFitAndFitsStepExactRow, standIns := [], harness := (true, "da968fab617ff05d43e936efe85c719735f09ba1d6278591fca4dabdf25e3628"), looks := false }, kinds := [], alts := [], laidByText := true, laidKinds := [.widerDeep], laidTests := true, laidLooks := .later }
def FnNewStepsFitAndFitsStepExactCardSaid : Prop := Claim7.holds Tryd.pinned (.plain (OpenSpec.ofChange fnNewStepsFitAndFitsStepExactSpec)) fnNewStepsFitAndFitsStepExactCard

/-- THE TIED CARD OF 'zzlaws_pkg_saga_b1.FnUpdateStepLastActionWinsAndStatusesAgree'. -/
def fnUpdateStepLastActionWinsAndStatusesAgreeCard : Claim7 := { stood := { row := fnUpdateStepLastActionWinsAndStatusesAgreeRow, standIns := [], harness := (true, "da968fab617ff05d43e936efe85c719735f09ba1d6278591fca4dabdf25e3628"), looks := false }, kinds := [], alts := [], laidByText := true, laidKinds := [.widerDeep], laidTests := true, laidLooks := .later }
def FnUpdateStepLastActionWinsAndStatusesAgreeCardSaid : Prop := Claim7.holds Tryd.pinned (.plain (OpenSpec.ofChange fnUpdateStepLastActionWinsAndStatusesAgreeSpec)) fnUpdateStepLastActionWinsAndStatusesAgreeCard
end Rows
end Go.Proofs.Qxb6615011aDoor
