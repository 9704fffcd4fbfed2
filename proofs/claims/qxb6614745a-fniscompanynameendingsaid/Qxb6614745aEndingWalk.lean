/- The walk of 'FnIsCompanyNameEnding'. -/
import Derived.Test.Qxb6614745aNames
namespace Go.Proofs.Qxb6614745a
open Go.ChangeShapes Go.WideShapes Go.ChangeAt Go.RowKit

theorem app_data (a b : ByteArray) : (a ++ b).data.toList = a.data.toList ++ b.data.toList := by
  rw [ByteArray.data_append, Array.toList_append]

theorem drop_app (l m : List UInt8) (k : Nat) (h : k ≤ m.length) : (l ++ m).drop ((l ++ m).length - k) = m.drop (m.length - k) := by
  rw [List.length_append, show l.length + m.length - k = l.length + (m.length - k) from by omega, List.drop_append]
  simp

/-- an ending of seven bytes or more decides by itself -/
theorem isName_app (l m : List UInt8) (h : 7 ≤ m.length) : isName (l ++ m) = isName m := by
  unfold isName
  rw [drop_app l m 6 (by omega), List.length_append, decide_eq_true (show 6 < l.length + m.length by omega), decide_eq_true (show 6 < m.length by omega)]

theorem isName_gs (l : List UInt8) : isName (l ++ gs) = decide (0 < l.length) := by
  unfold isName
  rw [drop_app l gs 6 (by decide), List.length_append]
  have e : (gs.drop (gs.length - 6) == gs) = true := by decide
  rw [e, Bool.and_true]
  have e2 : gs.length = 6 := rfl
  rw [e2]
  by_cases h : 0 < l.length
  · rw [decide_eq_true h, decide_eq_true (by omega)]
  · rw [decide_eq_false h, decide_eq_false (by omega)]

theorem first_call (a : ByteArray) : isName (a ++ { data := #[229, 133, 172, 229, 143, 184] }).data.toList = decide (0 < a.size) := by
  rw [app_data, Lib.size_eq]
  exact isName_gs _

theorem app_call (a b : ByteArray) (h : 7 ≤ b.size) : isName (a ++ b).data.toList = isName b.data.toList := by
  rw [app_data]
  exact isName_app _ _ (by rw [← Lib.size_eq]; omega)

theorem emp (a : ByteArray) : (!decide (0 < a.size) == !a.toList.isEmpty) = false := by
  rw [Lib.toList_data, Lib.size_eq]
  cases a.data.toList <;> simp

set_option maxHeartbeats 400000 in
theorem ending_walk (a0 : ByteArray) (a1 : ByteArray) (w0 : a0.size ≤ maxLen) (w1 : a1.size ≤ maxLen) (w : World) :
    Calls Try.prog 3 #[.string a0, .string a1] w fun e w' => e = .returned (.bool true) ∧ Grown w w' := by
  have hs := w0
  have ht := w1
  unfold maxLen at hs ht
  by_cases hb : a0.size + a1.size ≤ 1048576
  · have hb' : decide (a0.size + a1.size ≤ 1048576) = true := decide_eq_true hb
    go_enter Try.func3, Try.ntmps3
    go_wp2_with fail
    refine (bytes7 _ _ _ w0 w1).mono ?_
    rintro e w' ⟨rfl, rfl⟩
    rw [hb']
    go_wp2_with fail
    · go_ret
      exact ⟨rfl, Grown.refl _⟩
    · go_ret
      exact ⟨rfl, Grown.refl _⟩
    · refine (name_any _ _ (by unfold maxLen; rw [ByteArray.size_append]; show a0.size + 6 ≤ _; omega)).mono ?_
      rintro e w' ⟨rfl, rfl⟩
      rw [first_call]
      have hem := emp a0
      go_wp2_with fail
      · refine (name_any _ _ w1).mono ?_
        rintro e w' ⟨rfl, rfl⟩
        rw [isName_short _ (by rw [← Lib.size_eq]; omega)]
        go_wp2_with fail
        go_ret
        exact ⟨rfl, Grown.refl _⟩
      · refine (name_any _ _ (by unfold maxLen; rw [ByteArray.size_append]; omega)).mono ?_
        rintro e w' ⟨rfl, rfl⟩
        rw [app_call _ _ (by omega)]
        go_wp2_with fail
        refine (name_any _ _ w1).mono ?_
        rintro e w' ⟨rfl, rfl⟩
        go_wp2_with fail
        go_ret
        exact ⟨ret_bool (by simp), Grown.refl _⟩
  · have hb' : decide (a0.size + a1.size ≤ 1048576) = false := decide_eq_false hb
    go_enter Try.func3, Try.ntmps3
    go_wp2_with fail
    refine (bytes7 _ _ _ w0 w1).mono ?_
    rintro e w' ⟨rfl, rfl⟩
    rw [hb']
    go_wp2_with fail
    go_ret
    exact ⟨rfl, Grown.refl _⟩
end Go.Proofs.Qxb6614745a
