/-
  No cell of these rows narrows 'for every input' (looked for: loops, veiled, ifaces, maps, wideKeys, modest, calm, conditions, laid).
  DERIVED. THE GIVEN ROWS OF THIS SEAT. 3 by the template 'for every input the law returns true; each argument reads behind the call as it read before'; 0 by the template 'total and deterministic' (their statements: Qxb6614616aTotals.lean).
  GIVEN WITH THE SEED: the statements are not yours to turn. If you find one false, say at which input.
  Laid BY PROGRAM, IN A SANDBOX (cutbox-rows.mjs): the forced cells as the released guide's own fill.sh prints them over the translation 058279fa46832afb… (all of the seat's roots in one cut). By AI agents, Wed Nov 11 2026. No macro, syntax, notation, axiom, sorry.
-/
import Derived.Test.Qxb6614616aChecked
import GoSem.Claim
import GoSem.ClaimJoined
import GoSem.ClaimMapViews
import Derived.JoinedTies
import Derived.KernelRfl
namespace Go.Proofs.Qxb6614616a
/- THE CELL 'sum', in the pinned program and in every row, IS THE sha256 OF THE DUMP (.gsa) THAT Qxb6614616aProg.lean LOADS. Nothing in Lean hashes anything: it is a label: what it is worth is what the hold of that sum in a sandbox is worth. -/
noncomputable def Try.pinned : Pinned := { name := "qxb6614616a", sum := "058279fa46832afb319a6596d3a727f52bacd2f7e3eb911c1d33fd7912ed4b6e", checked := Try.checked }
namespace Rows
def none {H : Type} : Left H := { results := [], args := [] }

/-- 'zzlaws_internal_iri_b1.FnIRIIsSpellsItsPieces': WHATEVER THE INPUT: true; the input reads as it did. -/
def fnIRIIsSpellsItsPiecesSpec : ChangeSpec := { name := "fnIRIIsSpellsItsPieces", fn := fun _ => fun
  | [d1, d2, d3] => { results := [.lit (.bool true)], args := [d1, d2, d3] }
  | _ => none }
def fnIRIIsSpellsItsPiecesRow : OpenClaim := { program := "qxb6614616a", sum := "058279fa46832afb319a6596d3a727f52bacd2f7e3eb911c1d33fd7912ed4b6e", func := "example.com/grant-check/grant-check/zzlaws_internal_iri_b1.FnIRIIsSpellsItsPieces", spec := "fnIRIIsSpellsItsPieces", apart := false }
def FnIRIIsSpellsItsPiecesSaid : Prop := fnIRIIsSpellsItsPiecesRow.holds Try.pinned (OpenSpec.ofChange fnIRIIsSpellsItsPiecesSpec)

/-- ITS FALSE NEIGHBOUR: 'it returns false'. Refute it at one input. -/
def fnIRIIsSpellsItsPiecesWrong : ChangeSpec := { name := "fnIRIIsSpellsItsPieces", fn := fun _ => fun
  | [d1, d2, d3] => { results := [.lit (.bool false)], args := [d1, d2, d3] }
  | _ => none }
def FnIRIIsSpellsItsPiecesWrongFalsely : Prop := fnIRIIsSpellsItsPiecesRow.holds Try.pinned (OpenSpec.ofChange fnIRIIsSpellsItsPiecesWrong)

/-- 'zzlaws_internal_iri_b1.FnLowerCaseIgnoresWhatFollows': WHATEVER THE INPUT: true; the input reads as it did. -/
def fnLowerCaseIgnoresWhatFollowsSpec : ChangeSpec := { name := "fnLowerCaseIgnoresWhatFollows", fn := fun _ => fun
  | [d1, d2, d3, d4, d5] => { results := [.lit (.bool true)], args := [d1, d2, d3, d4, d5] }
  | _ => none }
def fnLowerCaseIgnoresWhatFollowsRow : OpenClaim := { program := "qxb6614616a", sum := "058279fa46832afb319a6596d3a727f52bacd2f7e3eb911c1d33fd7912ed4b6e", func := "example.com/grant-check/grant-check/zzlaws_internal_iri_b1.FnLowerCaseIgnoresWhatFollows", spec := "fnLowerCaseIgnoresWhatFollows", apart := false }
def FnLowerCaseIgnoresWhatFollowsSaid : Prop := fnLowerCaseIgnoresWhatFollowsRow.holds Try.pinned (OpenSpec.ofChange fnLowerCaseIgnoresWhatFollowsSpec)

/-- ITS FALSE NEIGHBOUR: 'it returns false'. Refute it at one input. -/
def fnLowerCaseIgnoresWhatFollowsWrong : ChangeSpec := { name := "fnLowerCaseIgnoresWhatFollows", fn := fun _ => fun
  | [d1, d2, d3, d4, d5] => { results := [.lit (.bool false)], args := [d1, d2, d3, d4, d5] }
  | _ => none }
def FnLowerCaseIgnoresWhatFollowsWrongFalsely : Prop := fnLowerCaseIgnoresWhatFollowsRow.holds Try.pinned (OpenSpec.ofChange fnLowerCaseIgnoresWhatFollowsWrong)

/-- 'zzlaws_internal_iri_b1.FnLowerCaseIsIdempotent': WHATEVER THE INPUT: true; the input reads as it did. -/
def fnLowerCaseIsIdempotentSpec : ChangeSpec := { name := "fnLowerCaseIsIdempotent", fn := fun _ => fun
  | [d1, d2, d3, d4, d5] => { results := [.lit (.bool true)], args := [d1, d2, d3, d4, d5] }
  | _ => none }
def fnLowerCaseIsIdempotentRow : OpenClaim := { program := "qxb6614616a", sum := "058279fa46832afb319a6596d3a727f52bacd2f7e3eb911c1d33fd7912ed4b6e", func := "example.com/grant-check/grant-check/zzlaws_internal_iri_b1.FnLowerCaseIsIdempotent", spec := "fnLowerCaseIsIdempotent", apart := false }
def FnLowerCaseIsIdempotentSaid : Prop := fnLowerCaseIsIdempotentRow.holds Try.pinned (OpenSpec.ofChange fnLowerCaseIsIdempotentSpec)

/-- ITS FALSE NEIGHBOUR: 'it returns false'. Refute it at one input. -/
def fnLowerCaseIsIdempotentWrong : ChangeSpec := { name := "fnLowerCaseIsIdempotent", fn := fun _ => fun
  | [d1, d2, d3, d4, d5] => { results := [.lit (.bool false)], args := [d1, d2, d3, d4, d5] }
  | _ => none }
def FnLowerCaseIsIdempotentWrongFalsely : Prop := fnLowerCaseIsIdempotentRow.holds Try.pinned (OpenSpec.ofChange fnLowerCaseIsIdempotentWrong)

end Rows
end Go.Proofs.Qxb6614616a
