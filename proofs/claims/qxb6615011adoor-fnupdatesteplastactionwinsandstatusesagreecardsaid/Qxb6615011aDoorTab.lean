/- The table of action statuses: 'slices.Index', 'slices.Contains' over it; 'isActionStatus'. -/
import Derived.Test.Qxb6615011aDoorMem
import Derived.Test.Qxb6615011aDoorLens
import Derived.Lib.Strings
namespace Go.Proofs.Qxb6615011aDoor
open Go.ChangeShapes Go.WideShapes Go.ChangeAt Go.RowKit
set_option linter.unusedVariables false

/-- the five statuses -/
def tab : Nat → ByteArray
  | 0 => ⟨#[78, 79, 84, 95, 82, 85, 78]⟩
  | 1 => ⟨#[82, 85, 78, 78, 73, 78, 71]⟩
  | 2 => ⟨#[83, 85, 67, 67, 69, 69, 68, 69, 68]⟩
  | 3 => ⟨#[70, 65, 73, 76, 69, 68]⟩
  | _ => ⟨#[85, 78, 75, 78, 79, 87, 78]⟩

/-- is it one of the five? -/
def isAct (l : List UInt8) : Bool := l == [78, 79, 84, 95, 82, 85, 78] || l == [82, 85, 78, 78, 73, 78, 71] || l == [83, 85, 67, 67, 69, 69, 68, 69, 68] || l == [70, 65, 73, 76, 69, 68] || l == [85, 78, 75, 78, 79, 87, 78]

theorem tab_list (k : Nat) (h : k < 5) : (tab k).toList = [[78, 79, 84, 95, 82, 85, 78], [82, 85, 78, 78, 73, 78, 71], [83, 85, 67, 67, 69, 69, 68, 69, 68], [70, 65, 73, 76, 69, 68], [85, 78, 75, 78, 79, 87, 78]][k] := by
  rw [Lib.toList_data]
  match k, h with
  | 0, _ => rfl
  | 1, _ => rfl
  | 2, _ => rfl
  | 3, _ => rfl
  | 4, _ => rfl

theorem isAct_hit (l : List UInt8) (k : Nat) (h : k < 5) (he : (l == (tab k).toList) = true) : isAct l = true := by
  rw [tab_list k h] at he
  unfold isAct
  match k, h with
  | 0, _ => simp at he; simp [he]
  | 1, _ => simp at he; simp [he]
  | 2, _ => simp at he; simp [he]
  | 3, _ => simp at he; simp [he]
  | 4, _ => simp at he; simp [he]

theorem isAct_miss (l : List UInt8) (h : ∀ j, j < 5 → (l == (tab j).toList) = false) : isAct l = false := by
  have h0 := h 0 (by omega); have h1 := h 1 (by omega); have h2 := h 2 (by omega); have h3 := h 3 (by omega); have h4 := h 4 (by omega)
  rw [tab_list _ (by omega)] at h0 h1 h2 h3 h4
  unfold isAct
  simp only [List.getElem_cons_zero, List.getElem_cons_succ] at h0 h1 h2 h3 h4
  rw [h0, h1, h2, h3, h4]; rfl

set_option maxHeartbeats 400000 in
theorem index27 (b o c : Nat) (v : ByteArray) (w : World) (hc : ∀ j, j < 5 → w.cell? ⟨b, o + j, none⟩ = some (.string (tab j))) :
    Calls Tryd.prog 27 #[.slice (some ⟨b, o, none⟩) 5 c, .string v] w fun e w' => (∃ r : Int, e = .returned (.int .i64 r) ∧ decide (0 ≤ r) = isAct v.toList) ∧ w' = w := by
  go_enter Tryd.func27, Tryd.ntmps27
  go_wp2
  go_loop [8] (fun i => ∃ k : Nat, k ≤ 5 ∧ i = .int .i64 k ∧ ∀ j, j < k → (v.toList == (tab j).toList) = false) (fun i => 5 - (intOf i).toNat)
  case atStart => exact ⟨0, by omega, rfl, fun j hj => absurd hj (by omega)⟩
  case round =>
    obtain ⟨k, hk, rfl, hno⟩ := hrel
    have HN : Hid (∀ j, j < k → (v.toList == (tab j).toList) = false) := hno
    clear hno
    by_cases hlt : k < 5
    · have hck := hc k hlt
      go_wp2
      · go_ret
        have he : (v.toList == (tab k).toList) = true := by assumption
        exact ⟨⟨_, rfl, by rw [isAct_hit _ k hlt he]; simp⟩, rfl⟩
      · have he : (v.toList == (tab k).toList) = false := by assumption
        go_round
        case rel => exact ⟨k + 1, by omega, by go_num, fun j hj => by
          by_cases e : j = k
          · subst e; exact he
          · exact HN.out j (by omega)⟩
        case measure => simp [intOf]; omega
    · go_wp2
      go_ret
      exact ⟨⟨_, rfl, by rw [isAct_miss _ (fun j hj => HN.out j (by omega))]; rfl⟩, rfl⟩

theorem ret_bool {a b : Bool} (h : a = b) : Ending.returned (.bool a) = .returned (.bool b) := by rw [h]

set_option maxHeartbeats 400000 in
theorem contains23 (b o c : Nat) (v : ByteArray) (w : World) (hc : ∀ j, j < 5 → w.cell? ⟨b, o + j, none⟩ = some (.string (tab j))) :
    Calls Tryd.prog 23 #[.slice (some ⟨b, o, none⟩) 5 c, .string v] w fun e w' => e = .returned (.bool (isAct v.toList)) ∧ w' = w := by
  go_enter Tryd.func23, Tryd.ntmps23
  go_wp2_with fail
  refine (index27 b o c v _ hc).mono ?_
  rintro e w' ⟨⟨r, rfl, hr⟩, rfl⟩
  have HR : Hid (decide (0 ≤ r) = isAct v.toList) := hr
  clear hr
  go_wp2_with fail
  go_ret
  exact ⟨ret_bool HR.out, rfl⟩

set_option maxHeartbeats 400000 in
theorem isAct10 (a : ByteArray) (w : World) :
    Calls Tryd.prog 10 #[.string a] w fun e w' => e = .returned (.bool (isAct a.toList)) ∧ w' = w := by
  go_enter Tryd.func10, Tryd.ntmps10
  go_wp2
  all_goals
    go_ret
    refine ⟨ret_bool ?_, rfl⟩
    unfold isAct
    simp [*]
end Go.Proofs.Qxb6615011aDoor
