/- 'Rows.FnUpdateStepCountsAndNotesFirstTouchOrderSaid', proved. -/
import Derived.Test.Qxb6615011aCountsEmpty
import Derived.SliceStrings
import Derived.OpenShut
import Derived.SizedLaws
namespace Go.Proofs.Qxb6615011a.fnUpdateStepCountsAndNotesFirstTouchOrder
open Go.ChangeShapes Go.WideShapes Go.ChangeAt Go.RowKit Go.WideElems
set_option linter.unusedVariables false
set_option maxRecDepth 100000

theorem walk (ad : Option Addr) (n c : Nat) (nm : Nat → ByteArray) (ai : Option Addr) (ni ci : Nat) (ix : Nat → Int) (w : World) (hn : n ≤ 8796093022207) (hi : ni ≤ 17592186044415) (hv : StrsAt w ad n nm) (hx : IntsAt w ai ni ix) :
    Calls Try.prog 3 #[.slice ad n c, .slice ai ni ci] w fun e w' => e = .returned (.bool true) ∧ Below w.heap.size w w' := by
  by_cases ho : 4096 < ni ∨ 65536 < n
  · exact counts_off ad n c nm ai ni ci w hn hi hv ho
  · rcases hx with rfl | ⟨bi, oi, rfl, hc⟩
    · rcases hv.1 with hn0 | ⟨b, o, rfl, hcn⟩
      · exact counts_none n c ci ad ai nm [] w (by omega) (by simp) hv hn0 rfl
      · exact counts_noidx b o n c ci ai nm [] w (by omega) (by simp) hv hcn rfl
    · by_cases hb : ∃ j, j < ni ∧ (ix j < 0 ∨ (n : Int) ≤ ix j)
      · exact counts_bad ad n c nm bi oi ni ci ix w (by omega) (by omega) hv hc hb
      · have hgood : ∀ j, j < ni → 0 ≤ ix j ∧ ix j < n := fun j hj => by
          by_cases h1 : ix j < 0
          · exact absurd ⟨j, hj, .inl h1⟩ hb
          · by_cases h2 : (n : Int) ≤ ix j
            · exact absurd ⟨j, hj, .inr h2⟩ hb
            · omega
        have hlen : ((List.range ni).map fun k => (ix k).toNat).length = ni := by simp
        have hget : ∀ k (h : k < ((List.range ni).map fun k => (ix k).toNat).length), (((List.range ni).map fun k => (ix k).toNat)[k]) = (ix k).toNat := fun k h => by simp
        have hcells : ∀ k (h : k < ((List.range ni).map fun k => (ix k).toNat).length), w.cell? ⟨bi, oi + k, none⟩ = some (.int .i64 ((((List.range ni).map fun k => (ix k).toNat)[k] : Nat) : Int)) := fun k h => by
          rw [hget k h, Int.toNat_of_nonneg (hgood k (by omega)).1]
          exact hc k (by omega)
        have hlt : ∀ k (h : k < ((List.range ni).map fun k => (ix k).toNat).length), (((List.range ni).map fun k => (ix k).toNat)[k]) < n := fun k h => by
          rw [hget k h]
          have := hgood k (by omega)
          omega
        rcases hv.1 with hn0 | ⟨b, o, rfl, hcn⟩
        · by_cases hni : ni = 0
          · subst hni
            exact counts_none n c ci ad (some ⟨bi, oi, none⟩) nm [] w (by omega) (by simp) hv hn0 rfl
          · have := hgood 0 (by omega)
            omega
        · have := counts_main b o n c bi oi ci nm ((List.range ni).map fun k => (ix k).toNat) w (by omega) (by omega) hv hcn hcells hlt
          rw [hlen] at this
          exact this

theorem own : ownKnob Try.prog.godebug = none := by kernel_rfl
theorem laidOut : laidOutB Try.prog = true := by kernel_rfl
theorem cells9 : Try.prog.cellsOf 9 = 1 := by kernel_rfl
theorem cells3 : Try.prog.cellsOf 3 = 1 := by kernel_rfl
theorem bytes9 : Try.prog.bytesOf 9 = 16 := by kernel_rfl
theorem bytes3 : Try.prog.bytesOf 3 = 8 := by kernel_rfl

/-- a slice of strings among the arguments -/
theorem view_strs {H : Type} {enc : TypeId × Value → H} {W : World} {base : Nat} {v : Value} {d : DataW H} {p : List MemPlace} (hok : Value.okWide Try.prog W .any base 22 v)
    (h : DataW.Trod enc Try.prog W 0 (fun _ => true) true 22 v d p) :
    ∃ (ad : Option Addr) (n c : Nat) (nm : Nat → ByteArray), v = .slice ad n c ∧ StrsAt W ad n nm ∧ (n = 0 ∨ ∃ es sp, d = .slice es sp ∧ es.length = n) := by
  obtain ⟨a0, len, cap, rfl⟩ := okWide_slice Try.underlying22 hok
  obtain ⟨fuel, hf⟩ := h
  rcases open_strings Try.underlying22 Try.underlying9 cells9 hf with ⟨hcs, hx⟩ | ⟨a, len', cap', ss, hcs, _, hl, hm, hz, hx, hcell, hws⟩
  · simp [Value.cells] at hcs
    obtain ⟨rfl, rfl, rfl⟩ := hcs
    exact ⟨none, 0, 0, fun _ => ByteArray.empty, rfl, ⟨.inl rfl, fun j hj => absurd hj (by omega)⟩, .inl rfl⟩
  · simp [Value.cells] at hcs
    obtain ⟨rfl, rfl, rfl⟩ := hcs
    simp only [if_true] at hz
    simp only [Prod.mk.injEq] at hx
    refine ⟨some a, len, cap, fun j => ss.getD j ByteArray.empty, rfl, ⟨?_, fun j hj => ?_⟩, .inr ⟨_, _, hx.1, by simp [strs, hz]; omega⟩⟩
    · by_cases h0 : len = 0
      · exact .inl h0
      · obtain ⟨b, off, spot⟩ := a
        have hspot : spot = none := by simpa [Addr.add] using World.cell?_spot (hcell 0 (by omega))
        subst hspot
        exact .inr ⟨b, off, rfl, fun j hj => by rw [← add_plain]; exact hcell j (by omega)⟩
    · have : ss.getD j ByteArray.empty ∈ ss := by
        rw [List.getD_eq_getElem?_getD, List.getElem?_eq_getElem (show j < ss.length by omega)]
        simp
      exact hws _ this

/-- a slice of ints among the arguments -/
theorem view_ints {H : Type} {enc : TypeId × Value → H} {W : World} {base : Nat} {v : Value} {d : DataW H} {p : List MemPlace} (hok : Value.okWide Try.prog W .any base 23 v)
    (h : DataW.Trod enc Try.prog W 0 (fun _ => true) true 23 v d p) :
    ∃ (ad : Option Addr) (n c : Nat) (ix : Nat → Int), v = .slice ad n c ∧ IntsAt W ad n ix ∧ (n = 0 ∨ ∃ es sp, d = .slice es sp ∧ es.length = n) := by
  obtain ⟨a0, len, cap, rfl⟩ := okWide_slice Try.underlying23 hok
  obtain ⟨fuel, hf⟩ := h
  rcases open_ints Try.underlying23 Try.underlying3 cells3 hf with ⟨hcs, hx⟩ | ⟨a, len', cap', zs, hcs, _, hl, hm, hz, hx, hcell, hws⟩
  · simp [Value.cells] at hcs
    obtain ⟨rfl, rfl, rfl⟩ := hcs
    exact ⟨none, 0, 0, fun _ => 0, rfl, .inl rfl, .inl rfl⟩
  · simp [Value.cells] at hcs
    obtain ⟨rfl, rfl, rfl⟩ := hcs
    simp only [if_true] at hz
    simp only [Prod.mk.injEq] at hx
    refine ⟨some a, len, cap, fun j => zs.getD j 0, rfl, ?_, .inr ⟨_, _, hx.1, by simp [lits, hz]; omega⟩⟩
    by_cases h0 : len = 0
    · exact .inl h0
    · obtain ⟨b, off, spot⟩ := a
      have hspot : spot = none := by simpa [Addr.add] using World.cell?_spot (hcell 0 (by omega))
      subst hspot
      exact .inr ⟨b, off, rfl, fun j hj => by rw [← add_plain]; exact hcell j (by omega)⟩

set_option maxHeartbeats 1600000 in
theorem lifted (os : Os) (started : os.Started) (H : Type) (enc : TypeId × Value → H) :
    ReturnsInHanded {} Try.checked os 3 .any (Rows.fnUpdateStepCountsAndNotesFirstTouchOrderSpec.pre6 enc Try.prog Try.f3 Rows.fnUpdateStepCountsAndNotesFirstTouchOrderRow.domain false) (Rows.fnUpdateStepCountsAndNotesFirstTouchOrderSpec.post enc Try.prog Try.f3 false true false false) := by
  refine returnsInHanded_of_change_sized (C := Try.checked) own started (by kernel_rfl) Try.func3
    (ChangeSpec.witness6 (enc := enc) (C := Try.checked) false ⟨#[], #[.slice none 0 0, .slice none 0 0], []⟩ 8 (by kernel_rfl) (by kernel_rfl) (by kernel_rfl) (by kernel_rfl)) ?_
  intro W base args ds gs before hval0 hW _ hsz0 _
  have hval : ∀ (j : Nat) t v, Try.f3.params[j]? = some t → args[j]? = some v → Value.okWide Try.prog W .any base t v := hval0
  have hsz : (DataW.weightsEach Try.prog (Try.f3.params.toList ++ Rows.fnUpdateStepCountsAndNotesFirstTouchOrderSpec.plain.varTypes Try.prog) (ds ++ gs)).all (· ≤ reachBytes) = true := hsz0
  have hW' := hW
  obtain ⟨p, q, hA0, hV, rfl, hfz, hnd⟩ := hW
  have hA : DataW.TrodAll enc Try.prog W 0 (fun _ => true) true Try.f3.params.toList args.toList ds p := hA0
  rw [Try.params3] at hA hval hsz
  obtain ⟨v0, vs0, d0, ds0, p0, q0, hargs, rfl, rfl, h0, r0⟩ := trodAll_cons hA
  obtain ⟨v1, vs1, d1, ds1, p1, q1, rfl, rfl, rfl, h1, r1⟩ := trodAll_cons r0
  obtain ⟨rfl, rfl, rfl⟩ := trodAll_nil r1
  obtain rfl : args = #[v0, v1] := by cases args; simp_all
  obtain ⟨rfl, rfl⟩ := trodVars_none hV
  obtain ⟨ad, n, c, nm, rfl, hv, hlen⟩ := view_strs (hval 0 22 v0 rfl rfl) h0
  obtain ⟨ai, ni, ci, ix, rfl, hi, hleni⟩ := view_ints (hval 1 23 v1 rfl rfl) h1
  have hn : n ≤ 8796093022207 := by
    rcases hlen with rfl | ⟨es, sp, rfl, hes⟩
    · omega
    · have := sized_slice hsz (j := 0) (t := 22) (e := 9) rfl rfl Try.underlying22
      rw [bytes9] at this
      unfold reachBytes at this
      omega
  have hni : ni ≤ 17592186044415 := by
    rcases hleni with rfl | ⟨es, sp, rfl, hes⟩
    · omega
    · have := sized_slice hsz (j := 1) (t := 23) (e := 3) rfl rfl Try.underlying23
      rw [bytes3] at this
      unfold reachBytes at this
      omega
  have hlt0 : ∀ x ∈ p0, x.block < W.heap.size := fun x hx => hW'.lt x (List.mem_append_left _ (List.mem_append_left _ hx))
  have hlt1 : ∀ x ∈ p1, x.block < W.heap.size := fun x hx => hW'.lt x (List.mem_append_left _ (List.mem_append_right _ (List.mem_append_left _ hx)))
  clear hA0 hval0 hA hV hsz0 hsz r0 r1
  refine (walk ad n c nm ai ni ci ix W hn hni hv hi).mono fun e W' ⟨he, hB⟩ => ?_
  subst he
  have h0' := Below.trod laidOut (by kernel_rfl) (of_decide_eq_true (by kernel_rfl)) h0 hB hlt0
  have h1' := Below.trod laidOut (by kernel_rfl) (of_decide_eq_true (by kernel_rfl)) h1 hB hlt1
  obtain ⟨pa, hpa⟩ : ∃ pa, DataW.TrodAll enc Try.prog W' 0 (fun b => decide (b < W.heap.size)) true [22, 23] [.slice ad n c, .slice ai ni ci] [d0, d1] pa :=
    ⟨_, trodAll_cons_mk h0' (trodAll_cons_mk h1' trodAll_mk0)⟩
  refine ⟨_, rfl, _, _, _, [], pa, [], hW', ?_, ?_, ?_, hB.frame _, fun h => by cases h⟩
  · exact trodAll_cons_mk (shut_bool Try.underlying4 _) trodAll_mk0
  · exact hpa
  · rfl

theorem proved : Rows.FnUpdateStepCountsAndNotesFirstTouchOrderSaid :=
  OpenClaim.holds_of_wide 3 Try.f3 rfl rfl rfl rfl rfl rfl rfl ⟨rfl, rfl, rfl, rfl, rfl⟩ rfl rfl rfl rfl rfl (by kernel_rfl) Try.func3 (by kernel_rfl)
    (of_decide_eq_true (by kernel_rfl)) (by unfold Func.isWrapper; first | (rw [if_pos (by decide +kernel)]; kernel_rfl) | (rw [if_neg (by decide +kernel)]; exact ⟨rfl, rfl⟩))
    (fun os started H enc _ => lifted os started H enc)
end Go.Proofs.Qxb6615011a.fnUpdateStepCountsAndNotesFirstTouchOrder
