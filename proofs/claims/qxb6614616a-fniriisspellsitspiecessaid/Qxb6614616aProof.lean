/- 'Rows.FnIRIIsSpellsItsPiecesSaid', proved. -/
import Derived.Test.Qxb6614616aWalk
import Derived.SliceStrings
import Derived.OpenShut
import Derived.SizedLaws
import Derived.ShutString
namespace Go.Proofs.Qxb6614616a.fnIRIIsSpellsItsPieces
open Go.ChangeShapes Go.WideShapes Go.ChangeAt Go.RowKit Go.WideElems
open Go.ChangeMaps (open_string shut_string)
set_option linter.unusedVariables false
set_option maxRecDepth 100000

theorem walk (ad : Option Addr) (n c : Nat) (nm : Nat → ByteArray) (t s : ByteArray) (w : World) (hn : n ≤ 8796093022207) (ht : t.size ≤ maxLen) (hs : s.size ≤ maxLen) (hv : StrsAt w ad n nm) :
    Calls Try.prog 3 #[.slice ad n c, .string t, .string s] w fun e w' => e = .returned (.bool true) ∧ Below w.heap.size w w' := by
  by_cases ho : 262144 < t.size ∨ 262144 < s.size ∨ 16384 < n
  · exact spell_off ad n c nm t s w hn ht hs hv ho
  · exact spell_main ad n c nm t s w (by omega) (by omega) (by omega) hv

theorem own : ownKnob Try.prog.godebug = none := by kernel_rfl
theorem laidOut : laidOutB Try.prog = true := by kernel_rfl
theorem cells9 : Try.prog.cellsOf 9 = 1 := by kernel_rfl
theorem bytes9 : Try.prog.bytesOf 9 = 16 := by kernel_rfl

/-- a slice of strings among the arguments -/
theorem view_strs {H : Type} {enc : TypeId × Value → H} {W : World} {base : Nat} {v : Value} {d : DataW H} {p : List MemPlace} (hok : Value.okWide Try.prog W .any base 22 v)
    (h : DataW.Trod enc Try.prog W 0 (fun _ => true) true 22 v d p) :
    ∃ (ad : Option Addr) (n c : Nat) (nm : Nat → ByteArray), v = .slice ad n c ∧ StrsAt W ad n nm ∧ (n = 0 ∨ ∃ es sp, d = .slice es sp ∧ es.length = n) := by
  obtain ⟨a0, len, cap, rfl⟩ := okWide_slice Try.underlying22 hok
  obtain ⟨fuel, hf⟩ := h
  rcases open_strings Try.underlying22 Try.underlying9 cells9 hf with ⟨hcs, hx⟩ | ⟨a, len', cap', ss, hcs, _, hl, hm, hz, hx, hcell, hws⟩
  · simp [Value.cells] at hcs
    obtain ⟨rfl, rfl, rfl⟩ := hcs
    exact ⟨none, 0, 0, fun _ => ByteArray.empty, rfl, ⟨.inl rfl, fun j hj => absurd hj (by omega)⟩, .inl rfl⟩
  · simp [Value.cells] at hcs
    obtain ⟨rfl, rfl, rfl⟩ := hcs
    simp only [if_true] at hz
    simp only [Prod.mk.injEq] at hx
    refine ⟨some a, len, cap, fun j => ss.getD j ByteArray.empty, rfl, ⟨?_, fun j hj => ?_⟩, .inr ⟨_, _, hx.1, by simp [strs, hz]; omega⟩⟩
    · by_cases h0 : len = 0
      · exact .inl h0
      · obtain ⟨b, off, spot⟩ := a
        have hspot : spot = none := by simpa [Addr.add] using World.cell?_spot (hcell 0 (by omega))
        subst hspot
        exact .inr ⟨b, off, rfl, fun j hj => by rw [← add_plain]; exact hcell j (by omega)⟩
    · have : ss.getD j ByteArray.empty ∈ ss := by
        rw [List.getD_eq_getElem?_getD, List.getElem?_eq_getElem (show j < ss.length by omega)]
        simp
      exact hws _ this

set_option maxHeartbeats 1600000 in
theorem lifted (os : Os) (started : os.Started) (H : Type) (enc : TypeId × Value → H) :
    ReturnsInHanded {} Try.checked os 3 .any (Rows.fnIRIIsSpellsItsPiecesSpec.pre6 enc Try.prog Try.f3 Rows.fnIRIIsSpellsItsPiecesRow.domain false) (Rows.fnIRIIsSpellsItsPiecesSpec.post enc Try.prog Try.f3 false true false false) := by
  refine returnsInHanded_of_change_sized (C := Try.checked) own started (by kernel_rfl) Try.func3
    (ChangeSpec.witness6 (enc := enc) (C := Try.checked) false ⟨#[], #[.slice none 0 0, .string ByteArray.empty, .string ByteArray.empty], []⟩ 8 (by kernel_rfl) (by kernel_rfl) (by kernel_rfl) (by kernel_rfl)) ?_
  intro W base args ds gs before hval0 hW _ hsz0 _
  have hval : ∀ (j : Nat) t v, Try.f3.params[j]? = some t → args[j]? = some v → Value.okWide Try.prog W .any base t v := hval0
  have hsz : (DataW.weightsEach Try.prog (Try.f3.params.toList ++ Rows.fnIRIIsSpellsItsPiecesSpec.plain.varTypes Try.prog) (ds ++ gs)).all (· ≤ reachBytes) = true := hsz0
  have hW' := hW
  obtain ⟨p, q, hA0, hV, rfl, hfz, hnd⟩ := hW
  have hA : DataW.TrodAll enc Try.prog W 0 (fun _ => true) true Try.f3.params.toList args.toList ds p := hA0
  rw [Try.params3] at hA hval hsz
  obtain ⟨v0, vs0, d0, ds0, p0, q0, hargs, rfl, rfl, h0, r0⟩ := trodAll_cons hA
  obtain ⟨v1, vs1, d1, ds1, p1, q1, rfl, rfl, rfl, h1, r1⟩ := trodAll_cons r0
  obtain ⟨v2, vs2, d2, ds2, p2, q2, rfl, rfl, rfl, h2, r2⟩ := trodAll_cons r1
  obtain ⟨rfl, rfl, rfl⟩ := trodAll_nil r2
  obtain rfl : args = #[v0, v1, v2] := by cases args; simp_all
  obtain ⟨rfl, rfl⟩ := trodVars_none hV
  obtain ⟨ad, n, c, nm, rfl, hv, hlen⟩ := view_strs (hval 0 22 v0 rfl rfl) h0
  obtain ⟨t, rfl, rfl, rfl, w1⟩ := open_string Try.underlying9 (hval 1 9 v1 rfl rfl) h1
  obtain ⟨s, rfl, rfl, rfl, w2⟩ := open_string Try.underlying9 (hval 2 9 v2 rfl rfl) h2
  have hn : n ≤ 8796093022207 := by
    rcases hlen with rfl | ⟨es, sp, rfl, hes⟩
    · omega
    · have := sized_slice hsz (j := 0) (t := 22) (e := 9) rfl rfl Try.underlying22
      rw [bytes9] at this
      unfold reachBytes at this
      omega
  have hlt0 : ∀ x ∈ p0, x.block < W.heap.size := fun x hx => hW'.lt x (List.mem_append_left _ (List.mem_append_left _ hx))
  clear hA0 hval0 hA hV hsz0 hsz r0 r1 r2
  refine (walk ad n c nm t s W hn w1 w2 hv).mono fun e W' ⟨he, hB⟩ => ?_
  subst he
  have h0' := Below.trod laidOut (by kernel_rfl) (of_decide_eq_true (by kernel_rfl)) h0 hB hlt0
  obtain ⟨pa, hpa⟩ : ∃ pa, DataW.TrodAll enc Try.prog W' 0 (fun b => decide (b < W.heap.size)) true [22, 9, 9] [.slice ad n c, .string t, .string s] [d0, .lit (.string t.data.toList), .lit (.string s.data.toList)] pa :=
    ⟨_, trodAll_cons_mk h0' (trodAll_cons_mk (shut_string Try.underlying9 w1) (trodAll_cons_mk (shut_string Try.underlying9 w2) trodAll_mk0))⟩
  refine ⟨_, rfl, _, _, _, [], pa, [], hW', ?_, ?_, ?_, hB.frame _, fun h => by cases h⟩
  · exact trodAll_cons_mk (shut_bool Try.underlying4 _) trodAll_mk0
  · exact hpa
  · rfl

theorem proved : Rows.FnIRIIsSpellsItsPiecesSaid :=
  OpenClaim.holds_of_wide 3 Try.f3 rfl rfl rfl rfl rfl rfl rfl ⟨rfl, rfl, rfl, rfl, rfl⟩ rfl rfl rfl rfl rfl (by kernel_rfl) Try.func3 (by kernel_rfl)
    (of_decide_eq_true (by kernel_rfl)) (by unfold Func.isWrapper; first | (rw [if_pos (by decide +kernel)]; kernel_rfl) | (rw [if_neg (by decide +kernel)]; exact ⟨rfl, rfl⟩))
    (fun os started H enc _ => lifted os started H enc)
end Go.Proofs.Qxb6614616a.fnIRIIsSpellsItsPieces
