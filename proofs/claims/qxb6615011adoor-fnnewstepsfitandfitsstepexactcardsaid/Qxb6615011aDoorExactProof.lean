/- 'Rows.FnNewStepsFitAndFitsStepExactSaid' and its tied card. -/
import Derived.Test.Qxb6615011aDoorExact
import Derived.Test.Qxb6615011aDoorOpen
import Derived.Test.Qxb6615011aDoorTie
import Derived.Test.Qxb6615011aDoorCards
namespace Go.Proofs.Qxb6615011aDoor.fnNewStepsFitAndFitsStepExact
open Go.ChangeShapes Go.WideShapes Go.ChangeAt Go.RowKit Go.WideElems
open Go.ChangeMaps (open_string shut_string)
set_option linter.unusedVariables false

theorem walk (ad : Option Addr) (n c : Nat) (nm : Nat → ByteArray) (i att catt : Int) (s a p : ByteArray) (w : World) (hn : n ≤ 8796093022207) (hv : StrsAt w ad n nm) (ht : TabIn w)
    (hs : s.size ≤ maxLen) (ha : a.size ≤ maxLen) (hp : p.size ≤ maxLen) :
    Calls Tryd.prog 3 #[.slice ad n c, .int .i64 i, .string s, .string a, .int .i64 att, .string p, .int .i64 catt] w fun e w' => e = .returned (.bool true) ∧ Below w.heap.size w w' := by
  by_cases ho : i < 0 ∨ (n : Int) ≤ i
  · exact exact_early ad n c nm i att catt s a p w hn hv hs ha hp ho
  · obtain ⟨m, rfl⟩ : ∃ m : Nat, i = m := ⟨i.toNat, by omega⟩
    rcases hv.1 with h0 | ⟨b, o, rfl, hc⟩
    · exact absurd h0 (by omega)
    · exact exact_main b o n c m nm att catt s a p w hn hv ht hc hs ha hp (by omega)

set_option maxHeartbeats 1600000 in
set_option maxRecDepth 100000 in
theorem lifted (os : Os) (started : os.Started) (H : Type) (enc : TypeId × Value → H) :
    ReturnsInHanded {} Tryd.checked os 3 .any (fun w args => (Rows.fnNewStepsFitAndFitsStepExactSpec.pre enc Tryd.prog Tryd.f3 [] false w args ∧ laidMetH Tryd.prog [(vname, Rows.laid_example_com_counterstep_counterstep_pkg_saga_actionStatuses)] w) ∧ sizedMet enc Tryd.prog Tryd.f3 (OpenSpec.ofChange Rows.fnNewStepsFitAndFitsStepExactSpec) false w args)
      (Rows.fnNewStepsFitAndFitsStepExactSpec.post enc Tryd.prog Tryd.f3 false true false false) := by
  refine returnsInHanded_of_change_and (C := Tryd.checked) (X := fun w _ => laidMetH Tryd.prog [(vname, Rows.laid_example_com_counterstep_counterstep_pkg_saga_actionStatuses)] w) (fun _ _ _ hh h => h.of_heap hh) own started (by kernel_rfl) Tryd.func3
    (ChangeSpec.witness_shaped (enc := enc) (C := Tryd.checked) (os := os) (X := fun w _ => laidMetH Tryd.prog [(vname, Rows.laid_example_com_counterstep_counterstep_pkg_saga_actionStatuses)] w) false (World.doorLaid Tryd.prog 14 os) #[.slice none 0 0, .int .i64 0, .string ByteArray.empty, .string ByteArray.empty, .int .i64 0, .string ByteArray.empty, .int .i64 0] 8 rfl (World.shaped_of_RefB (by kernel_rfl) (by kernel_rfl)) (by kernel_rfl) (by kernel_rfl) (by kernel_rfl) (door_met os _)) ?_
  intro W base args ds gs before hval0 hW _ hsz0 hL _
  have hval : ∀ (j : Nat) t v, Tryd.f3.params[j]? = some t → args[j]? = some v → Value.okWide Tryd.prog W .any base t v := hval0
  have hsz : (DataW.weightsEach Tryd.prog (Tryd.f3.params.toList ++ Rows.fnNewStepsFitAndFitsStepExactSpec.plain.varTypes Tryd.prog) (ds ++ gs)).all (· ≤ reachBytes) = true := hsz0
  have hW' := hW
  obtain ⟨p, q, hA0, hV0, rfl, hfz, hnd⟩ := hW
  have hA : DataW.TrodAll enc Tryd.prog W 0 (fun _ => true) true Tryd.f3.params.toList args.toList ds p := hA0
  have hV : DataW.TrodVars enc Tryd.prog W (fun _ => true) [vname] gs q := hV0
  rw [Tryd.params3] at hA hval hsz
  obtain ⟨v0, vs0, d0, ds0, p0, q0, hargs, rfl, rfl, h0, r0⟩ := trodAll_cons hA
  obtain ⟨v1, vs1, d1, ds1, p1, q1, rfl, rfl, rfl, h1, r1⟩ := trodAll_cons r0
  obtain ⟨v2, vs2, d2, ds2, p2, q2, rfl, rfl, rfl, h2, r2⟩ := trodAll_cons r1
  obtain ⟨v3, vs3, d3, ds3, p3, q3, rfl, rfl, rfl, h3, r3⟩ := trodAll_cons r2
  obtain ⟨v4, vs4, d4, ds4, p4, q4, rfl, rfl, rfl, h4, r4⟩ := trodAll_cons r3
  obtain ⟨v5, vs5, d5, ds5, p5, q5, rfl, rfl, rfl, h5, r5⟩ := trodAll_cons r4
  obtain ⟨v6, vs6, d6, ds6, p6, q6, rfl, rfl, rfl, h6, r6⟩ := trodAll_cons r5
  obtain ⟨rfl, rfl, rfl⟩ := trodAll_nil r6
  obtain rfl : args = #[v0, v1, v2, v3, v4, v5, v6] := by cases args; simp_all
  obtain ⟨g, t, cs, fuel, d, p', rfl, hg, ht, hvar, hd, rfl⟩ := trodVars_one hV
  obtain rfl := Option.some.inj (gTab.symm.trans hg)
  obtain rfl := Option.some.inj (tTab.symm.trans ht)
  obtain ⟨ad, n, c, nm, rfl, hv, hlen⟩ := view_strs (hval 0 22 v0 rfl rfl) h0
  obtain ⟨i, rfl, rfl, rfl, w1⟩ := open_int Tryd.underlying3 (hval 1 3 v1 rfl rfl) h1
  obtain ⟨s, rfl, rfl, rfl, w2⟩ := open_string Tryd.underlying9 (hval 2 9 v2 rfl rfl) h2
  obtain ⟨a, rfl, rfl, rfl, w3⟩ := open_string Tryd.underlying9 (hval 3 9 v3 rfl rfl) h3
  obtain ⟨att, rfl, rfl, rfl, w4⟩ := open_int Tryd.underlying3 (hval 4 3 v4 rfl rfl) h4
  obtain ⟨pp, rfl, rfl, rfl, w5⟩ := open_string Tryd.underlying9 (hval 5 9 v5 rfl rfl) h5
  obtain ⟨catt, rfl, rfl, rfl, w6⟩ := open_int Tryd.underlying3 (hval 6 3 v6 rfl rfl) h6
  have hn : n ≤ 8796093022207 := by
    rcases hlen with rfl | ⟨es, sp, rfl, hes⟩
    · omega
    · have := sized_slice hsz (j := 0) (t := 22) (e := 9) rfl rfl Tryd.underlying22
      rw [bytes9] at this
      unfold reachBytes at this
      omega
  have hT := tab_of_laid hL
  have h0lt : 0 < W.heap.size := by
    obtain ⟨_, _, _, hc0, _⟩ := hT
    exact World.block_lt_of_cell? W _ hc0
  have hltv : ∀ x ∈ p', x.block < W.heap.size := fun x hx => hW'.lt x (List.mem_append_right _ (List.mem_append_right _ hx))
  have hlt0 : ∀ x ∈ p0, x.block < W.heap.size := fun x hx => hW'.lt x (List.mem_append_left _ (List.mem_append_left _ hx))
  clear hA0 hval0 hA hV hV0 hsz0 hsz hL r0 r1 r2 r3 r4 r5 r6
  refine (walk ad n c nm i att catt s a pp W hn hv hT w2 w3 w5).mono fun e W' ⟨he, hB⟩ => ?_
  subst he
  obtain ⟨va, vl, vc, hcs⟩ : ∃ va vl vc, cs = #[.slice va vl vc] := by
    rcases open_strings Tryd.underlying81 Tryd.underlying29 cells29 hd with ⟨hcs, _⟩ | ⟨a, len, cap, ss, hcs, _⟩
    · exact ⟨_, _, _, Array.eq_one_of_toList hcs⟩
    · exact ⟨_, _, _, Array.eq_one_of_toList hcs⟩
  subst hcs
  obtain ⟨fuel', hd'⟩ := Below.trod laidOut (by kernel_rfl) (of_decide_eq_true (by kernel_rfl)) (v := .slice va vl vc) (⟨fuel, by simpa [Value.cells] using hd⟩ : DataW.Trod enc Tryd.prog W 0 (fun _ => true) true 81 (.slice va vl vc) d p') hB hltv
  have hv' := trodVars_mk1 (enc := enc) (spare := fun b => decide (b < W.heap.size)) hg ht (var?_below hB hg h0lt hvar) (by simpa [Value.cells] using hd')
  have h0' := Below.trod laidOut (by kernel_rfl) (of_decide_eq_true (by kernel_rfl)) h0 hB hlt0
  obtain ⟨pa, hpa⟩ : ∃ pa, DataW.TrodAll enc Tryd.prog W' 0 (fun b => decide (b < W.heap.size)) true [22, 3, 9, 9, 3, 9, 3] [.slice ad n c, .int .i64 i, .string s, .string a, .int .i64 att, .string pp, .int .i64 catt]
      [d0, .lit (.int .i64 i), .lit (.string s.data.toList), .lit (.string a.data.toList), .lit (.int .i64 att), .lit (.string pp.data.toList), .lit (.int .i64 catt)] pa :=
    ⟨_, trodAll_cons_mk h0' (trodAll_cons_mk (shut_int Tryd.underlying3 w1) (trodAll_cons_mk (shut_string Tryd.underlying9 w2) (trodAll_cons_mk (shut_string Tryd.underlying9 w3) (trodAll_cons_mk (shut_int Tryd.underlying3 w4) (trodAll_cons_mk (shut_string Tryd.underlying9 w5) (trodAll_cons_mk (shut_int Tryd.underlying3 w6) trodAll_mk0))))))⟩
  refine ⟨_, rfl, _, _, _, [], pa, (MemPlace.row ⟨0, 0, none⟩ (#[.slice va vl vc] : Array Value).size ++ p'), hW', ?_, ?_, ?_, hB.frame _, fun h => by cases h⟩
  · exact trodAll_cons_mk (shut_bool Tryd.underlying4 _) trodAll_mk0
  · exact hpa
  · exact hv'

theorem row_holds : Rows.FnNewStepsFitAndFitsStepExactSaid :=
  OpenClaim.holds_of_wide 3 Tryd.f3 rfl rfl rfl rfl rfl rfl rfl ⟨rfl, rfl, rfl, rfl, rfl⟩ rfl rfl rfl rfl rfl (by kernel_rfl) Tryd.func3 (by kernel_rfl)
    (of_decide_eq_true (by kernel_rfl)) (by unfold Func.isWrapper; first | (rw [if_pos (by decide +kernel)]; kernel_rfl) | (rw [if_neg (by decide +kernel)]; exact ⟨rfl, rfl⟩))
    (fun os started H enc _ => lifted os started H enc)

/-- THE TIED CARD -/
theorem proved : Rows.FnNewStepsFitAndFitsStepExactCardSaid :=
  Claim7.holds_tied_plain_at .later [] [.widerDeep] true (true, "da968fab617ff05d43e936efe85c719735f09ba1d6278591fca4dabdf25e3628") false
    row_holds (fun _ h => by cases h) (by kernel_rfl) (fun _ h => by cases h) fnNewStepsFitAndFitsStepExact_row_tie rfl ⟨rfl, rfl⟩ (by kernel_rfl) rfl
    (fun f fn hf hfn => by
      obtain rfl : f = 3 := Option.some.inj ((show Tryd.prog.funcNamed Rows.fnNewStepsFitAndFitsStepExactRow.func = some 3 by kernel_rfl).symm.trans hf) |>.symm
      obtain rfl : fn = Tryd.f3 := (Option.some.inj (Tryd.func3.symm.trans hfn)).symm
      exact ⟨by kernel_rfl, fun j t ht => by
        rw [Tryd.params3] at ht
        have hm : t ∈ [22, 3, 9, 9, 3, 9, 3] := by simpa using Array.mem_of_getElem? ht
        have hall : ([22, 3, 9, 9, 3, 9, 3].all fun u => !Tryd.prog.wantsStandIn u) = true := by kernel_rfl
        exact (show Tryd.prog.wantsStandIn t = false by simpa using List.all_eq_true.1 hall t hm)⟩)
    (by kernel_rfl)
end Go.Proofs.Qxb6615011aDoor.fnNewStepsFitAndFitsStepExact
