/- The contracts of 'isCompanyName' and of the two laws' bounds on lengths. -/
import Derived.Test.Qxb6614745aRows
import Derived.WalkKit
import Derived.WalkSpells
import Derived.ProofKit
import Derived.Lib.Strings
namespace Go.Proofs.Qxb6614745a
open Go.ChangeShapes Go.WideShapes Go.ChangeAt Go.RowKit

/-- the six bytes of the ending -/
def gs : List UInt8 := [229, 133, 172, 229, 143, 184]

/-- what 'isCompanyName' answers -/
def isName (l : List UInt8) : Bool := decide (6 < l.length) && (l.drop (l.length - 6) == gs)

theorem ret_bool {a b : Bool} (h : a = b) : Ending.returned (.bool a) = .returned (.bool b) := by rw [h]

theorem isName_short (l : List UInt8) (h : l.length ≤ 6) : isName l = false := by
  unfold isName
  rw [decide_eq_false (by omega)]; rfl

theorem drop_bytes (s : ByteArray) : (s.extract (s.size - 6) s.size).toList = s.data.toList.drop (s.data.toList.length - 6) := by
  rw [Lib.extract_toList, Lib.size_eq, List.take_of_length_le (by simp)]

theorem isName_hit (s : ByteArray) (h : 6 ≤ s.size) (h1 : (s.extract (s.size - 6) s.size).toList = [229, 133, 172, 229, 143, 184]) :
    (!s.toList == [229, 133, 172, 229, 143, 184]) = isName s.data.toList := by
  rw [drop_bytes] at h1
  rw [Lib.size_eq] at h
  rw [Lib.toList_data]
  unfold isName
  by_cases h6 : 6 < s.data.toList.length
  · rw [decide_eq_true h6, h1]
    have : (s.data.toList == [229, 133, 172, 229, 143, 184]) = false := by
      rw [beq_eq_false_iff_ne]; intro hc; rw [hc] at h6; simp at h6
    rw [this]; rfl
  · have e : s.data.toList.length - 6 = 0 := by omega
    rw [e, List.drop_zero] at h1
    rw [decide_eq_false h6, h1]; rfl

theorem isName_miss (s : ByteArray) (h1 : ¬ (s.extract (s.size - 6) s.size).toList = [229, 133, 172, 229, 143, 184]) :
    false = isName s.data.toList := by
  rw [drop_bytes] at h1
  unfold isName
  have : (s.data.toList.drop (s.data.toList.length - 6) == gs) = false := by
    rw [beq_eq_false_iff_ne]; exact h1
  rw [this, Bool.and_false]

set_option maxHeartbeats 400000 in
theorem name_any (s : ByteArray) (w : World) (hs : s.size ≤ maxLen) :
    Calls Try.prog 8 #[.string s] w fun e w' => e = .returned (.bool (isName s.data.toList)) ∧ w' = w := by
  unfold maxLen at hs
  by_cases h : s.size < 6
  · go_enter Try.func8, Try.ntmps8
    go_wp2
    go_ret
    exact ⟨ret_bool (isName_short _ (by rw [← Lib.size_eq]; omega)).symm, rfl⟩
  · go_enter Try.func8, Try.ntmps8
    go_wp2
    · go_ret
      exact ⟨ret_bool (isName_hit s (by omega) ‹_›), rfl⟩
    · go_ret
      exact ⟨ret_bool (isName_miss s ‹_›), rfl⟩

set_option maxHeartbeats 400000 in
theorem bytes7 (s t : ByteArray) (w : World) (hs : s.size ≤ maxLen) (ht : t.size ≤ maxLen) :
    Calls Try.prog 7 #[.string s, .string t] w fun e w' => e = .returned (.bool (decide (s.size + t.size ≤ 1048576))) ∧ w' = w := by
  unfold maxLen at hs ht
  go_enter Try.func7, Try.ntmps7
  go_wp2
  all_goals
    go_ret
    exact ⟨ret_bool (by first | (rw [decide_eq_true (by omega)]) | (rw [decide_eq_false (by omega)])), rfl⟩

set_option maxHeartbeats 400000 in
theorem bytes9 (s : ByteArray) (w : World) (hs : s.size ≤ maxLen) :
    Calls Try.prog 9 #[.string s] w fun e w' => e = .returned (.bool (decide (s.size ≤ 1048576))) ∧ w' = w := by
  unfold maxLen at hs
  go_enter Try.func9, Try.ntmps9
  go_wp2
  all_goals
    go_ret
    exact ⟨ret_bool (by first | (rw [decide_eq_true (by omega)]) | (rw [decide_eq_false (by omega)])), rfl⟩
end Go.Proofs.Qxb6614745a
