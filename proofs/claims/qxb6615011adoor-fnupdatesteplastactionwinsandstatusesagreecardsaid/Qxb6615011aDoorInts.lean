/- 'slices.Index', 'slices.Contains' over a row of ints that the call itself made. -/
import Derived.Test.Qxb6615011aDoorTab
import Derived.WalkKit
import Derived.WalkSpells
import Derived.Laws.OwnMore
namespace Go.Proofs.Qxb6615011aDoor
open Go.RowKit
set_option linter.unusedVariables false

/-- a list of indices as cells -/
def intCells (l : List Nat) : List Value := l.map fun (j : Nat) => Value.int .i64 (j : Int)
/-- the answer of a search: found or not -/
def Says (r : Int) (b : Bool) : Prop := decide (0 ≤ r) = b
/-- is the index in the list? -/
def inL (l : List Nat) (j : Nat) : Bool := l.contains j

set_option maxHeartbeats 400000 in
theorem index23 (g c : Nat) (l : List Nat) (j : Nat) (w : World) (hl : l.length ≤ 8796093022207) (hj : j ≤ 8796093022207) (hb : ∀ x ∈ l, x ≤ 8796093022207)
    (hc : ∀ i (h : i < l.length), w.cell? ⟨g, i, none⟩ = some (.int .i64 (l[i] : Int))) :
    Calls Tryd.prog 33 #[.slice (some ⟨g, 0, none⟩) l.length c, .int .i64 j] w fun e w' => (∃ r : Int, e = .returned (.int .i64 r) ∧ Says r (inL l j)) ∧ w' = w := by
  have HC : Hid (∀ i (h : i < l.length), w.cell? ⟨g, i, none⟩ = some (.int .i64 (l[i] : Int))) := hc
  clear hc
  go_enter Tryd.func33, Tryd.ntmps33
  go_wp2
  go_loop [8] (fun i => ∃ k : Nat, k ≤ l.length ∧ i = .int .i64 k ∧ ∀ x (h : x < l.length), x < k → l[x] ≠ j) (fun i => l.length - (intOf i).toNat)
  case atStart => exact ⟨0, by omega, rfl, fun x h hx => absurd hx (by omega)⟩
  case round =>
    obtain ⟨k, hk, rfl, hno⟩ := hrel
    have HN : Hid (∀ x (h : x < l.length), x < k → l[x] ≠ j) := hno
    clear hno
    by_cases hlt : k < l.length
    · obtain ⟨x, hx⟩ : ∃ x, x = l[k] := ⟨_, rfl⟩
      have hck := HC.out k hlt
      rw [← hx] at hck
      have HX : Hid (x = l[k]) := hx
      clear hx
      by_cases he : x = j
      · subst he
        go_wp2
        go_ret
        refine ⟨⟨_, rfl, ?_⟩, rfl⟩
        have : inL l x = true := by unfold inL; rw [HX.out]; simp
        rw [this]; unfold Says; simp
      · have hne : ((j : Int) == (x : Int)) = false := by simp; omega
        go_wp2
        go_round
        case rel => exact ⟨k + 1, by omega, by go_num, fun y h hy => by
          by_cases e : y = k
          · subst e; rw [← HX.out]; exact he
          · exact HN.out y h (by omega)⟩
        case measure => simp [intOf]; omega
    · go_wp2
      go_ret
      refine ⟨⟨_, rfl, ?_⟩, rfl⟩
      have : inL l j = false := by
        unfold inL
        rw [List.contains_eq_mem, decide_eq_false_iff_not, List.mem_iff_getElem]
        rintro ⟨x, h, e⟩
        exact HN.out x h (by omega) e
      rw [this]; rfl

set_option maxHeartbeats 400000 in
theorem index23_nil (j : Int) (w : World) :
    Calls Tryd.prog 33 #[.slice none 0 0, .int .i64 j] w fun e w' => (∃ r : Int, e = .returned (.int .i64 r) ∧ Says r false) ∧ w' = w := by
  go_enter Tryd.func33, Tryd.ntmps33
  go_wp2
  refine wp_loop_rounds 1 ?_
  rw [rounds_succ]
  go_wp2
  go_ret
  exact ⟨⟨_, rfl, rfl⟩, rfl⟩

set_option maxHeartbeats 400000 in
theorem contains20_of (v : Value) (j : Int) (b : Bool) (w : World) (h : Calls Tryd.prog 33 #[v, .int .i64 j] w fun e w' => (∃ r : Int, e = .returned (.int .i64 r) ∧ Says r b) ∧ w' = w) :
    Calls Tryd.prog 30 #[v, .int .i64 j] w fun e w' => e = .returned (.bool b) ∧ w' = w := by
  go_enter Tryd.func30, Tryd.ntmps30
  go_wp2_with fail
  refine h.mono ?_
  rintro e w' ⟨⟨r, rfl, hr⟩, rfl⟩
  have HR : Hid (Says r b) := hr
  clear hr h
  go_wp2_with fail
  go_ret
  exact ⟨ret_bool HR.out, rfl⟩

/-- 'slices.Contains' over what the saga owns -/
theorem contains20 (B : Nat) (v : Value) (l : List Nat) (j : Nat) (w : World) (hl : l.length ≤ 8796093022207) (hj : j ≤ 8796093022207) (hb : ∀ x ∈ l, x ≤ 8796093022207) (hown : w.ownsRow B 3 1 v l.length (intCells l)) :
    Calls Tryd.prog 30 #[v, .int .i64 j] w fun e w' => e = .returned (.bool (inL l j)) ∧ w' = w := by
  have hown' := hown
  rcases hown.2 with ⟨rfl, hn⟩ | ⟨g, cap, cur, rfl, _⟩
  · have h0 : l = [] := by
      cases l with
      | nil => rfl
      | cons x xs => simp at hn
    subst h0
    refine contains20_of _ _ _ _ ?_
    exact index23_nil j w
  · refine contains20_of _ _ _ _ (index23 g cap l j w hl hj hb fun i hi => ?_)
    rw [hown'.cellAt i (by omega)]
    simp [intCells, hi]
end Go.Proofs.Qxb6615011aDoor
