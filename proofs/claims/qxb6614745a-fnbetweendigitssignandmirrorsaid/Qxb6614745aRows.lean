/-
  No cell of these rows narrows 'for every input' (looked for: loops, veiled, ifaces, maps, wideKeys, modest, calm, conditions, laid).
  DERIVED. THE GIVEN ROWS OF THIS SEAT. 4 by the template 'for every input the law returns true; each argument reads behind the call as it read before'; 0 by the template 'total and deterministic' (their statements: Qxb6614745aTotals.lean).
  GIVEN WITH THE SEED: the statements are not yours to turn. If you find one false, say at which input.
  Laid BY PROGRAM, IN A SANDBOX (cutbox-rows.mjs): the forced cells as the released guide's own fill.sh prints them over the translation 15b9b4552adfb989… (all of the seat's roots in one cut). By AI agents, Wed Nov 11 2026. No macro, syntax, notation, axiom, sorry.
-/
import Derived.Test.Qxb6614745aChecked
import GoSem.Claim
import GoSem.ClaimJoined
import GoSem.ClaimMapViews
import Derived.JoinedTies
import Derived.KernelRfl
namespace Go.Proofs.Qxb6614745a
/- THE CELL 'sum', in the pinned program and in every row, IS THE sha256 OF THE DUMP (.gsa) THAT Qxb6614745aProg.lean LOADS. Nothing in Lean hashes anything: it is a label: what it is worth is what the hold of that sum in a sandbox is worth. -/
noncomputable def Try.pinned : Pinned := { name := "qxb6614745a", sum := "15b9b4552adfb989053dda905d991a9f55e54b33b630f8fbc4fcbded819d2bf1", checked := Try.checked }
namespace Rows
def none {H : Type} : Left H := { results := [], args := [] }

/-- 'zzlaws_internal_prospectus_b1.FnIsCompanyNameEnding': WHATEVER THE INPUT: true; the input reads as it did. -/
def fnIsCompanyNameEndingSpec : ChangeSpec := { name := "fnIsCompanyNameEnding", fn := fun _ => fun
  | [d1, d2] => { results := [.lit (.bool true)], args := [d1, d2] }
  | _ => none }
def fnIsCompanyNameEndingRow : OpenClaim := { program := "qxb6614745a", sum := "15b9b4552adfb989053dda905d991a9f55e54b33b630f8fbc4fcbded819d2bf1", func := "example.com/zhaomu/zhaomu/zzlaws_internal_prospectus_b1.FnIsCompanyNameEnding", spec := "fnIsCompanyNameEnding", apart := false }
def FnIsCompanyNameEndingSaid : Prop := fnIsCompanyNameEndingRow.holds Try.pinned (OpenSpec.ofChange fnIsCompanyNameEndingSpec)

/-- ITS FALSE NEIGHBOUR: 'it returns false'. Refute it at one input. -/
def fnIsCompanyNameEndingWrong : ChangeSpec := { name := "fnIsCompanyNameEnding", fn := fun _ => fun
  | [d1, d2] => { results := [.lit (.bool false)], args := [d1, d2] }
  | _ => none }
def FnIsCompanyNameEndingWrongFalsely : Prop := fnIsCompanyNameEndingRow.holds Try.pinned (OpenSpec.ofChange fnIsCompanyNameEndingWrong)

/-- 'zzlaws_internal_prospectus_b1.FnIsCompanyNameSuffixCount': WHATEVER THE INPUT: true; the input reads as it did. -/
def fnIsCompanyNameSuffixCountSpec : ChangeSpec := { name := "fnIsCompanyNameSuffixCount", fn := fun _ => fun
  | [d] => { results := [.lit (.bool true)], args := [d] }
  | _ => none }
def fnIsCompanyNameSuffixCountRow : OpenClaim := { program := "qxb6614745a", sum := "15b9b4552adfb989053dda905d991a9f55e54b33b630f8fbc4fcbded819d2bf1", func := "example.com/zhaomu/zhaomu/zzlaws_internal_prospectus_b1.FnIsCompanyNameSuffixCount", spec := "fnIsCompanyNameSuffixCount", apart := false }
def FnIsCompanyNameSuffixCountSaid : Prop := fnIsCompanyNameSuffixCountRow.holds Try.pinned (OpenSpec.ofChange fnIsCompanyNameSuffixCountSpec)

/-- ITS FALSE NEIGHBOUR: 'it returns false'. Refute it at one input. -/
def fnIsCompanyNameSuffixCountWrong : ChangeSpec := { name := "fnIsCompanyNameSuffixCount", fn := fun _ => fun
  | [d] => { results := [.lit (.bool false)], args := [d] }
  | _ => none }
def FnIsCompanyNameSuffixCountWrongFalsely : Prop := fnIsCompanyNameSuffixCountRow.holds Try.pinned (OpenSpec.ofChange fnIsCompanyNameSuffixCountWrong)

/-- 'zzlaws_internal_prospectus_b1.FnBetweenDigitsWindow': WHATEVER THE INPUT: true; the input reads as it did. -/
def fnBetweenDigitsWindowSpec : ChangeSpec := { name := "fnBetweenDigitsWindow", fn := fun _ => fun
  | [d1, d2, d3, d4] => { results := [.lit (.bool true)], args := [d1, d2, d3, d4] }
  | _ => none }
def fnBetweenDigitsWindowRow : OpenClaim := { program := "qxb6614745a", sum := "15b9b4552adfb989053dda905d991a9f55e54b33b630f8fbc4fcbded819d2bf1", func := "example.com/zhaomu/zhaomu/zzlaws_internal_prospectus_b1.FnBetweenDigitsWindow", spec := "fnBetweenDigitsWindow", apart := false }
def FnBetweenDigitsWindowSaid : Prop := fnBetweenDigitsWindowRow.holds Try.pinned (OpenSpec.ofChange fnBetweenDigitsWindowSpec)

/-- ITS FALSE NEIGHBOUR: 'it returns false'. Refute it at one input. -/
def fnBetweenDigitsWindowWrong : ChangeSpec := { name := "fnBetweenDigitsWindow", fn := fun _ => fun
  | [d1, d2, d3, d4] => { results := [.lit (.bool false)], args := [d1, d2, d3, d4] }
  | _ => none }
def FnBetweenDigitsWindowWrongFalsely : Prop := fnBetweenDigitsWindowRow.holds Try.pinned (OpenSpec.ofChange fnBetweenDigitsWindowWrong)

/-- 'zzlaws_internal_prospectus_b1.FnBetweenDigitsSignAndMirror': WHATEVER THE INPUT: true; the input reads as it did. -/
def fnBetweenDigitsSignAndMirrorSpec : ChangeSpec := { name := "fnBetweenDigitsSignAndMirror", fn := fun _ => fun
  | [d1, d2, d3] => { results := [.lit (.bool true)], args := [d1, d2, d3] }
  | _ => none }
def fnBetweenDigitsSignAndMirrorRow : OpenClaim := { program := "qxb6614745a", sum := "15b9b4552adfb989053dda905d991a9f55e54b33b630f8fbc4fcbded819d2bf1", func := "example.com/zhaomu/zhaomu/zzlaws_internal_prospectus_b1.FnBetweenDigitsSignAndMirror", spec := "fnBetweenDigitsSignAndMirror", apart := false }
def FnBetweenDigitsSignAndMirrorSaid : Prop := fnBetweenDigitsSignAndMirrorRow.holds Try.pinned (OpenSpec.ofChange fnBetweenDigitsSignAndMirrorSpec)

/-- ITS FALSE NEIGHBOUR: 'it returns false'. Refute it at one input. -/
def fnBetweenDigitsSignAndMirrorWrong : ChangeSpec := { name := "fnBetweenDigitsSignAndMirror", fn := fun _ => fun
  | [d1, d2, d3] => { results := [.lit (.bool false)], args := [d1, d2, d3] }
  | _ => none }
def FnBetweenDigitsSignAndMirrorWrongFalsely : Prop := fnBetweenDigitsSignAndMirrorRow.holds Try.pinned (OpenSpec.ofChange fnBetweenDigitsSignAndMirrorWrong)

end Rows
end Go.Proofs.Qxb6614745a
