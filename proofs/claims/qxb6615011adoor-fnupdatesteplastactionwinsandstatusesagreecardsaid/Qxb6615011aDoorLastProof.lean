/- 'Rows.FnUpdateStepLastActionWinsAndStatusesAgreeSaid' and its tied card. -/
import Derived.Test.Qxb6615011aDoorLong
import Derived.Test.Qxb6615011aDoorOpen
import Derived.Test.Qxb6615011aDoorTie
import Derived.Test.Qxb6615011aDoorCards
namespace Go.Proofs.Qxb6615011aDoor.fnUpdateStepLastActionWinsAndStatusesAgree
open Go.ChangeShapes Go.WideShapes Go.ChangeAt Go.RowKit Go.WideElems
open Go.ChangeMaps (open_string shut_string)
set_option linter.unusedVariables false
set_option maxRecDepth 100000

theorem walk (ad : Option Addr) (n c : Nat) (nm : Nat → ByteArray) (ai : Option Addr) (ni ci : Nat) (ix : Nat → Int) (aa : Option Addr) (na ca : Nat) (ac : Nat → ByteArray) (w : World)
    (hn : n ≤ 8796093022207) (hi : ni ≤ 17592186044415) (ha : na ≤ 8796093022207) (hv : StrsAt w ad n nm) (hx : IntsAt w ai ni ix) (hva : StrsAt w aa na ac) (ht : TabIn w) :
    Calls Tryd.prog 4 #[.slice ad n c, .slice ai ni ci, .slice aa na ca] w fun e w' => e = .returned (.bool true) ∧ Below w.heap.size w w' := by
  by_cases ho : 4096 < ni ∨ 65536 < n
  · exact last_off ad n c nm ai ni ci aa na ca ac w hn hi ha hv hva ho
  · by_cases hc : na < ni
    · exact last_short ad n c nm ai ni ci ix aa na ca ac w (by omega) (by omega) ha hv hx hva ht hc
    · exact last_long ad n c nm ai ni ci ix aa na ca ac w (by omega) (by omega) ha hv hx hva ht (by omega)

theorem cells3 : Tryd.prog.cellsOf 3 = 1 := by kernel_rfl
theorem bytes3 : Tryd.prog.bytesOf 3 = 8 := by kernel_rfl

/-- a slice of ints among the arguments -/
theorem view_ints {H : Type} {enc : TypeId × Value → H} {W : World} {base : Nat} {v : Value} {d : DataW H} {p : List MemPlace} (hok : Value.okWide Tryd.prog W .any base 35 v)
    (h : DataW.Trod enc Tryd.prog W 0 (fun _ => true) true 35 v d p) :
    ∃ (ad : Option Addr) (n c : Nat) (ix : Nat → Int), v = .slice ad n c ∧ IntsAt W ad n ix ∧ (n = 0 ∨ ∃ es sp, d = .slice es sp ∧ es.length = n) := by
  obtain ⟨a0, len, cap, rfl⟩ := okWide_slice Tryd.underlying35 hok
  obtain ⟨fuel, hf⟩ := h
  rcases open_ints Tryd.underlying35 Tryd.underlying3 cells3 hf with ⟨hcs, hx⟩ | ⟨a, len', cap', zs, hcs, _, hl, hm, hz, hx, hcell, hws⟩
  · simp [Value.cells] at hcs
    obtain ⟨rfl, rfl, rfl⟩ := hcs
    exact ⟨none, 0, 0, fun _ => 0, rfl, .inl rfl, .inl rfl⟩
  · simp [Value.cells] at hcs
    obtain ⟨rfl, rfl, rfl⟩ := hcs
    simp only [if_true] at hz
    simp only [Prod.mk.injEq] at hx
    refine ⟨some a, len, cap, fun j => zs.getD j 0, rfl, ?_, .inr ⟨_, _, hx.1, by simp [lits, hz]; omega⟩⟩
    by_cases h0 : len = 0
    · exact .inl h0
    · obtain ⟨b, off, spot⟩ := a
      have hspot : spot = none := by simpa [Addr.add] using World.cell?_spot (hcell 0 (by omega))
      subst hspot
      exact .inr ⟨b, off, rfl, fun j hj => by rw [← add_plain]; exact hcell j (by omega)⟩

set_option maxHeartbeats 1600000 in
set_option maxRecDepth 100000 in
theorem lifted (os : Os) (started : os.Started) (H : Type) (enc : TypeId × Value → H) :
    ReturnsInHanded {} Tryd.checked os 4 .any (fun w args => (Rows.fnUpdateStepLastActionWinsAndStatusesAgreeSpec.pre enc Tryd.prog Tryd.f4 [] false w args ∧ laidMetH Tryd.prog [(vname, Rows.laid_example_com_counterstep_counterstep_pkg_saga_actionStatuses)] w) ∧ sizedMet enc Tryd.prog Tryd.f4 (OpenSpec.ofChange Rows.fnUpdateStepLastActionWinsAndStatusesAgreeSpec) false w args)
      (Rows.fnUpdateStepLastActionWinsAndStatusesAgreeSpec.post enc Tryd.prog Tryd.f4 false true false false) := by
  refine returnsInHanded_of_change_and (C := Tryd.checked) (X := fun w _ => laidMetH Tryd.prog [(vname, Rows.laid_example_com_counterstep_counterstep_pkg_saga_actionStatuses)] w) (fun _ _ _ hh h => h.of_heap hh) own started (by kernel_rfl) Tryd.func4
    (ChangeSpec.witness_shaped (enc := enc) (C := Tryd.checked) (os := os) (X := fun w _ => laidMetH Tryd.prog [(vname, Rows.laid_example_com_counterstep_counterstep_pkg_saga_actionStatuses)] w) false (World.doorLaid Tryd.prog 14 os) #[.slice none 0 0, .slice none 0 0, .slice none 0 0] 8 rfl (World.shaped_of_RefB (by kernel_rfl) (by kernel_rfl)) (by kernel_rfl) (by kernel_rfl) (by kernel_rfl) (door_met os _)) ?_
  intro W base args ds gs before hval0 hW _ hsz0 hL _
  have hval : ∀ (j : Nat) t v, Tryd.f4.params[j]? = some t → args[j]? = some v → Value.okWide Tryd.prog W .any base t v := hval0
  have hsz : (DataW.weightsEach Tryd.prog (Tryd.f4.params.toList ++ Rows.fnUpdateStepLastActionWinsAndStatusesAgreeSpec.plain.varTypes Tryd.prog) (ds ++ gs)).all (· ≤ reachBytes) = true := hsz0
  have hW' := hW
  obtain ⟨p, q, hA0, hV0, rfl, hfz, hnd⟩ := hW
  have hA : DataW.TrodAll enc Tryd.prog W 0 (fun _ => true) true Tryd.f4.params.toList args.toList ds p := hA0
  have hV : DataW.TrodVars enc Tryd.prog W (fun _ => true) [vname] gs q := hV0
  rw [Tryd.params4] at hA hval hsz
  obtain ⟨v0, vs0, d0, ds0, p0, q0, hargs, rfl, rfl, h0, r0⟩ := trodAll_cons hA
  obtain ⟨v1, vs1, d1, ds1, p1, q1, rfl, rfl, rfl, h1, r1⟩ := trodAll_cons r0
  obtain ⟨v2, vs2, d2, ds2, p2, q2, rfl, rfl, rfl, h2, r2⟩ := trodAll_cons r1
  obtain ⟨rfl, rfl, rfl⟩ := trodAll_nil r2
  obtain rfl : args = #[v0, v1, v2] := by cases args; simp_all
  obtain ⟨g, t, cs, fuel, d, p', rfl, hg, ht, hvar, hd, rfl⟩ := trodVars_one hV
  obtain rfl := Option.some.inj (gTab.symm.trans hg)
  obtain rfl := Option.some.inj (tTab.symm.trans ht)
  obtain ⟨ad, n, c, nm, rfl, hv, hlen⟩ := view_strs (hval 0 22 v0 rfl rfl) h0
  obtain ⟨ai, ni, ci, ix, rfl, hi, hleni⟩ := view_ints (hval 1 35 v1 rfl rfl) h1
  obtain ⟨aa, na, ca, ac, rfl, hva, hlena⟩ := view_strs (hval 2 22 v2 rfl rfl) h2
  have hn : n ≤ 8796093022207 := by
    rcases hlen with rfl | ⟨es, sp, rfl, hes⟩
    · omega
    · have := sized_slice hsz (j := 0) (t := 22) (e := 9) rfl rfl Tryd.underlying22
      rw [bytes9] at this
      unfold reachBytes at this
      omega
  have hni : ni ≤ 17592186044415 := by
    rcases hleni with rfl | ⟨es, sp, rfl, hes⟩
    · omega
    · have := sized_slice hsz (j := 1) (t := 35) (e := 3) rfl rfl Tryd.underlying35
      rw [bytes3] at this
      unfold reachBytes at this
      omega
  have hna : na ≤ 8796093022207 := by
    rcases hlena with rfl | ⟨es, sp, rfl, hes⟩
    · omega
    · have := sized_slice hsz (j := 2) (t := 22) (e := 9) rfl rfl Tryd.underlying22
      rw [bytes9] at this
      unfold reachBytes at this
      omega
  have hT := tab_of_laid hL
  have h0lt : 0 < W.heap.size := by
    obtain ⟨_, _, _, hc0, _⟩ := hT
    exact World.block_lt_of_cell? W _ hc0
  have hltv : ∀ x ∈ p', x.block < W.heap.size := fun x hx => hW'.lt x (List.mem_append_right _ (List.mem_append_right _ hx))
  have hlt0 : ∀ x ∈ p0, x.block < W.heap.size := fun x hx => hW'.lt x (List.mem_append_left _ (List.mem_append_left _ hx))
  have hlt1 : ∀ x ∈ p1, x.block < W.heap.size := fun x hx => hW'.lt x (List.mem_append_left _ (List.mem_append_right _ (List.mem_append_left _ hx)))
  have hlt2 : ∀ x ∈ p2, x.block < W.heap.size := fun x hx => hW'.lt x (List.mem_append_left _ (List.mem_append_right _ (List.mem_append_right _ (List.mem_append_left _ hx))))
  clear hA0 hval0 hA hV hV0 hsz0 hsz hL r0 r1 r2
  refine (walk ad n c nm ai ni ci ix aa na ca ac W hn hni hna hv hi hva hT).mono fun e W' ⟨he, hB⟩ => ?_
  subst he
  obtain ⟨va, vl, vc, hcs⟩ : ∃ va vl vc, cs = #[.slice va vl vc] := by
    rcases open_strings Tryd.underlying81 Tryd.underlying29 cells29 hd with ⟨hcs, _⟩ | ⟨a, len, cap, ss, hcs, _⟩
    · exact ⟨_, _, _, Array.eq_one_of_toList hcs⟩
    · exact ⟨_, _, _, Array.eq_one_of_toList hcs⟩
  subst hcs
  obtain ⟨fuel', hd'⟩ := Below.trod laidOut (by kernel_rfl) (of_decide_eq_true (by kernel_rfl)) (v := .slice va vl vc) (⟨fuel, by simpa [Value.cells] using hd⟩ : DataW.Trod enc Tryd.prog W 0 (fun _ => true) true 81 (.slice va vl vc) d p') hB hltv
  have hv' := trodVars_mk1 (enc := enc) (spare := fun b => decide (b < W.heap.size)) hg ht (var?_below hB hg h0lt hvar) (by simpa [Value.cells] using hd')
  have h0' := Below.trod laidOut (by kernel_rfl) (of_decide_eq_true (by kernel_rfl)) h0 hB hlt0
  have h1' := Below.trod laidOut (by kernel_rfl) (of_decide_eq_true (by kernel_rfl)) h1 hB hlt1
  have h2' := Below.trod laidOut (by kernel_rfl) (of_decide_eq_true (by kernel_rfl)) h2 hB hlt2
  obtain ⟨pa, hpa⟩ : ∃ pa, DataW.TrodAll enc Tryd.prog W' 0 (fun b => decide (b < W.heap.size)) true [22, 35, 22] [.slice ad n c, .slice ai ni ci, .slice aa na ca] [d0, d1, d2] pa :=
    ⟨_, trodAll_cons_mk h0' (trodAll_cons_mk h1' (trodAll_cons_mk h2' trodAll_mk0))⟩
  refine ⟨_, rfl, _, _, _, [], pa, (MemPlace.row ⟨0, 0, none⟩ (#[.slice va vl vc] : Array Value).size ++ p'), hW', ?_, ?_, ?_, hB.frame _, fun h => by cases h⟩
  · exact trodAll_cons_mk (shut_bool Tryd.underlying4 _) trodAll_mk0
  · exact hpa
  · exact hv'

theorem row_holds : Rows.FnUpdateStepLastActionWinsAndStatusesAgreeSaid :=
  OpenClaim.holds_of_wide 4 Tryd.f4 rfl rfl rfl rfl rfl rfl rfl ⟨rfl, rfl, rfl, rfl, rfl⟩ rfl rfl rfl rfl rfl (by kernel_rfl) Tryd.func4 (by kernel_rfl)
    (of_decide_eq_true (by kernel_rfl)) (by unfold Func.isWrapper; first | (rw [if_pos (by decide +kernel)]; kernel_rfl) | (rw [if_neg (by decide +kernel)]; exact ⟨rfl, rfl⟩))
    (fun os started H enc _ => lifted os started H enc)

/-- THE TIED CARD -/
theorem proved : Rows.FnUpdateStepLastActionWinsAndStatusesAgreeCardSaid :=
  Claim7.holds_tied_plain_at .later [] [.widerDeep] true (true, "da968fab617ff05d43e936efe85c719735f09ba1d6278591fca4dabdf25e3628") false
    row_holds (fun _ h => by cases h) (by kernel_rfl) (fun _ h => by cases h) fnUpdateStepLastActionWinsAndStatusesAgree_row_tie rfl ⟨rfl, rfl⟩ (by kernel_rfl) rfl
    (fun f fn hf hfn => by
      obtain rfl : f = 4 := Option.some.inj ((show Tryd.prog.funcNamed Rows.fnUpdateStepLastActionWinsAndStatusesAgreeRow.func = some 4 by kernel_rfl).symm.trans hf) |>.symm
      obtain rfl : fn = Tryd.f4 := (Option.some.inj (Tryd.func4.symm.trans hfn)).symm
      exact ⟨by kernel_rfl, fun j t ht => by
        rw [Tryd.params4] at ht
        have hm : t ∈ [22, 35, 22] := by simpa using Array.mem_of_getElem? ht
        have hall : ([22, 35, 22].all fun u => !Tryd.prog.wantsStandIn u) = true := by kernel_rfl
        exact (show Tryd.prog.wantsStandIn t = false by simpa using List.all_eq_true.1 hall t hm)⟩)
    (by kernel_rfl)
end Go.Proofs.Qxb6615011aDoor.fnUpdateStepLastActionWinsAndStatusesAgree
