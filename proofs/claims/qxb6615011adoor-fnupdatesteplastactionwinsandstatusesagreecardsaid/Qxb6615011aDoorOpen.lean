/- From data to the walks' words: slices of strings among the arguments, the listed table; and back. -/
import Derived.Test.Qxb6615011aDoorFits
import Derived.SliceStrings
import Derived.OpenShut
import Derived.LaidMore
import Derived.SizedLaws
import Derived.Stop.Joined
import Derived.ShutString
namespace Go.Proofs.Qxb6615011aDoor
open Go.ChangeShapes Go.WideShapes Go.ChangeAt Go.RowKit Go.WideElems
set_option linter.unusedVariables false
set_option maxRecDepth 100000

theorem own : ownKnob Tryd.prog.godebug = none := by kernel_rfl
theorem laidOut : laidOutB Tryd.prog = true := by kernel_rfl
theorem cells9 : Tryd.prog.cellsOf 9 = 1 := by kernel_rfl
theorem cells29 : Tryd.prog.cellsOf 29 = 1 := by kernel_rfl
theorem bytes9 : Tryd.prog.bytesOf 9 = 16 := by kernel_rfl
/-- the listed variable's name, as the given specification spells it -/
def vname : String := Rows.fnNewStepsFitAndFitsStepExactSpec.vars.headD ""
theorem gTab : Tryd.prog.globalNamed vname = some 0 := by kernel_rfl
theorem tTab : (Tryd.prog.globals[0]?).map (·.type) = some 81 := by kernel_rfl

/-- a slice of strings among the arguments -/
theorem view_strs {H : Type} {enc : TypeId × Value → H} {W : World} {base : Nat} {v : Value} {d : DataW H} {p : List MemPlace} (hok : Value.okWide Tryd.prog W .any base 22 v)
    (h : DataW.Trod enc Tryd.prog W 0 (fun _ => true) true 22 v d p) :
    ∃ (ad : Option Addr) (n c : Nat) (nm : Nat → ByteArray), v = .slice ad n c ∧ StrsAt W ad n nm ∧ (n = 0 ∨ ∃ es sp, d = .slice es sp ∧ es.length = n) := by
  obtain ⟨a0, len, cap, rfl⟩ := okWide_slice Tryd.underlying22 hok
  obtain ⟨fuel, hf⟩ := h
  rcases open_strings Tryd.underlying22 Tryd.underlying9 cells9 hf with ⟨hcs, hx⟩ | ⟨a, len', cap', ss, hcs, _, hl, hm, hz, hx, hcell, hws⟩
  · simp [Value.cells] at hcs
    obtain ⟨rfl, rfl, rfl⟩ := hcs
    exact ⟨none, 0, 0, fun _ => ByteArray.empty, rfl, ⟨.inl rfl, fun j hj => absurd hj (by omega)⟩, .inl rfl⟩
  · simp [Value.cells] at hcs
    obtain ⟨rfl, rfl, rfl⟩ := hcs
    simp only [if_true] at hz
    simp only [Prod.mk.injEq] at hx
    refine ⟨some a, len, cap, fun j => ss.getD j ByteArray.empty, rfl, ⟨?_, fun j hj => ?_⟩, .inr ⟨_, _, hx.1, by simp [strs, hz]; omega⟩⟩
    · by_cases h0 : len = 0
      · exact .inl h0
      · obtain ⟨b, off, spot⟩ := a
        have hspot : spot = none := by simpa [Addr.add] using World.cell?_spot (hcell 0 (by omega))
        subst hspot
        exact .inr ⟨b, off, rfl, fun j hj => by rw [← add_plain]; exact hcell j (by omega)⟩
    · have : ss.getD j ByteArray.empty ∈ ss := by
        rw [List.getD_eq_getElem?_getD, List.getElem?_eq_getElem (show j < ss.length by omega)]
        simp
      exact hws _ this

theorem strs_inj {H : Type} {a b : List ByteArray} (h : (strs a : List (DataW H)) = strs b) : a = b := by
  unfold strs at h
  induction a generalizing b with
  | nil => cases b <;> simp_all
  | cons x xs ih =>
    cases b with
    | nil => simp at h
    | cons y ys =>
      simp only [List.map_cons, List.cons.injEq, DataW.lit.injEq, Lit.string.injEq] at h
      obtain ⟨h1, h2⟩ := h
      have : x = y := by
        cases x; cases y
        simp only [ByteArray.mk.injEq]
        exact Array.ext' h1
      rw [this, ih h2]

/-- the listed variable's datum gives the table -/
theorem tab_of_laid {W : World} (h : laidMetH Tryd.prog [(vname, Rows.laid_example_com_counterstep_counterstep_pkg_saga_actionStatuses)] W) : TabIn W := by
  rw [MakeChecks.laidMetH_plain _ _ _ (by kernel_rfl)] at h
  obtain ⟨ps, ⟨g0, t0, cs0, f0, p0, q0, hg0, ht0, hv0, hd0, _, _⟩, _, _⟩ := h
  obtain rfl := Option.some.inj (gTab.symm.trans hg0)
  obtain rfl := Option.some.inj (tTab.symm.trans ht0)
  rcases open_strings Tryd.underlying81 Tryd.underlying29 cells29 hd0 with ⟨hcs, hx⟩ | ⟨a, len, cap, ss, hcs, _, hl, hm, hz, hx, hcell, hws⟩
  · simp [Rows.laid_example_com_counterstep_counterstep_pkg_saga_actionStatuses] at hx
  simp only [Prod.mk.injEq, Rows.laid_example_com_counterstep_counterstep_pkg_saga_actionStatuses, DataW.slice.injEq] at hx
  obtain ⟨⟨hx1, hx2⟩, _⟩ := hx
  have e1 : ss.take len = [tab 0, tab 1, tab 2, tab 3, tab 4] := strs_inj (H := Unit) (by rw [← hx1]; rfl)
  have e2 : ss.drop len = [] := strs_inj (H := Unit) (by rw [← hx2]; rfl)
  have l1 := congrArg List.length e1
  have l2 := congrArg List.length e2
  simp only [List.length_take, List.length_drop, List.length_cons, List.length_nil] at l1 l2
  have hlen : len = 5 := by
    by_cases hsp : (fun _ : Nat => true) a.block = true
    · split at hz <;> omega
    · split at hz <;> omega
  subst hlen
  have hss : ss.length = 5 := by omega
  have e3 : ss = [tab 0, tab 1, tab 2, tab 3, tab 4] := by rw [← e1, List.take_of_length_le (by omega)]
  have hcell0 : W.cell? ⟨0, 0, none⟩ = some (.slice (some a) 5 cap) := by
    have := World.var?_cell hg0 hv0 0
    rw [Array.eq_one_of_toList hcs] at this
    simpa using this
  obtain ⟨b, off, spot⟩ := a
  have hspot : spot = none := by simpa [Addr.add] using World.cell?_spot (hcell 0 (by omega))
  subst hspot
  refine ⟨b, off, cap, hcell0, fun j hj => ?_⟩
  have := hcell j (by omega)
  rw [add_plain] at this
  rw [this, e3]
  match j, hj with
  | 0, _ => rfl
  | 1, _ => rfl
  | 2, _ => rfl
  | 3, _ => rfl
  | 4, _ => rfl

theorem var?_below {P : Program} {B g : Nat} {W W' : World} {n : String} {cs : Array Value} (h : Below B W W') (hg : P.globalNamed n = some g) (hgB : g < B) (hv : W.var? P n = some cs) : W'.var? P n = some cs := by
  unfold World.var? at hv ⊢
  simp only [hg, Option.bind_some] at hv ⊢
  rw [h.block g hgB]
  exact hv

/-- the door's own heap meets the condition -/
theorem door_met (os : Os) (args : Array Value) : laidMetH Tryd.prog [(vname, Rows.laid_example_com_counterstep_counterstep_pkg_saga_actionStatuses)]
    ((World.doorLaid Tryd.prog 14 os).forCall (fun _ _ => 0) ⟨#[], args, []⟩).memory :=
  laidMetH_of_parts3 (fuel := 8) (laidMet_of_run' 8 (by kernel_rfl) (by kernel_rfl)) (by kernel_rfl) (by kernel_rfl)
end Go.Proofs.Qxb6615011aDoor
