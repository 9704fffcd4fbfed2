/- The contracts of 'betweenDigits' and its kin. -/
import Derived.Test.Qxb6614745aNames
import Derived.PlainAid
namespace Go.Proofs.Qxb6614745a
open Go.ChangeShapes Go.WideShapes Go.ChangeAt Go.RowKit Go.PlainAid

/-- is the byte a digit's? -/
def dg (x : Int) : Bool := decide (48 ≤ x) && decide (x ≤ 57)

theorem dg_lo {x : Int} (h : x < 48) : dg x = false := by unfold dg; rw [decide_eq_false (by omega)]; rfl
theorem dg_hi {x : Int} (h : 57 < x) : dg x = false := by unfold dg; rw [decide_eq_false (show ¬ x ≤ 57 by omega), Bool.and_false]
theorem dg_ge {x : Int} (h : 48 ≤ x) : dg x = decide (x ≤ 57) := by unfold dg; rw [decide_eq_true h, Bool.true_and]
theorem dg_in {x : Int} (h : 48 ≤ x) (h' : x ≤ 57) : dg x = true := by unfold dg; rw [decide_eq_true h, decide_eq_true h']; rfl

set_option maxHeartbeats 400000 in
theorem digit19 (x : Int) (w : World) :
    Calls Try.prog 19 #[.int .i32 x] w fun e w' => e = .returned (.bool (dg x)) ∧ w' = w := by
  by_cases h : 48 ≤ x
  · by_cases h' : x ≤ 57
    · go_enter Try.func19, Try.ntmps19
      go_wp2
      go_ret
      exact ⟨ret_bool (dg_in h h').symm, rfl⟩
    · go_enter Try.func19, Try.ntmps19
      go_wp2
      go_ret
      exact ⟨ret_bool (dg_hi (by omega)).symm, rfl⟩
  · go_enter Try.func19, Try.ntmps19
    go_wp2
    go_ret
    exact ⟨ret_bool (dg_lo (by omega)).symm, rfl⟩

set_option maxHeartbeats 400000 in
theorem digit12 (x : Int) (w : World) :
    Calls Try.prog 12 #[.int .u8 x] w fun e w' => e = .returned (.bool (dg x)) ∧ w' = w := by
  by_cases h : 48 ≤ x
  · by_cases h' : x ≤ 57
    · go_enter Try.func12, Try.ntmps12
      go_wp2
      go_ret
      exact ⟨ret_bool (dg_in h h').symm, rfl⟩
    · go_enter Try.func12, Try.ntmps12
      go_wp2
      go_ret
      exact ⟨ret_bool (dg_hi (by omega)).symm, rfl⟩
  · go_enter Try.func12, Try.ntmps12
    go_wp2
    go_ret
    exact ⟨ret_bool (dg_lo (by omega)).symm, rfl⟩

/-- what 'betweenDigits' answers -/
def betw (s : ByteArray) (i : Int) : Bool := decide (0 < i) && decide (i + 1 < s.size) && dg (bt s (i.toNat - 1)) && dg (bt s (i + 1).toNat)

theorem betw_lo {s : ByteArray} {i : Int} (h : i ≤ 0) : betw s i = false := by unfold betw; rw [decide_eq_false (by omega)]; rfl
theorem betw_hi {s : ByteArray} {i : Int} (h : (s.size : Int) ≤ i + 1) : betw s i = false := by unfold betw; rw [decide_eq_false (show ¬ i + 1 < s.size by omega), Bool.and_false]; rfl
theorem betw_in {s : ByteArray} {i : Int} (h : 0 < i) (h' : i + 1 < s.size) : betw s i = (dg (bt s (i.toNat - 1)) && dg (bt s (i + 1).toNat)) := by
  unfold betw; rw [decide_eq_true h, decide_eq_true h']; rfl

set_option maxHeartbeats 400000 in
theorem betw11 (s : ByteArray) (i : Int) (w : World) (_hs : s.size ≤ 10000000) (hi : -2000000000 ≤ i) (hi' : i ≤ 2000000000) :
    Calls Try.prog 11 #[.string s, .int .i64 i] w fun e w' => e = .returned (.bool (betw s i)) ∧ w' = w := by
  by_cases h : 0 < i
  · by_cases h' : i + 1 < s.size
    · have hg := get_bt s
      have b1 := bt_nonneg s (i.toNat - 1)
      have b2 := bt_le s (i.toNat - 1)
      have b3 := bt_nonneg s (i + 1).toNat
      have b4 := bt_le s (i + 1).toNat
      go_enter Try.func11, Try.ntmps11
      go_wp2_with (first | go_in)
      · go_ret
        refine ⟨ret_bool ?_, rfl⟩
        rw [betw_in h h', dg_in (show 48 ≤ bt s (i.toNat - 1) by omega) (by omega), dg_ge (by omega), Bool.true_and]
      · go_ret
        refine ⟨ret_bool ?_, rfl⟩
        rw [betw_in h h', dg_lo (show bt s (i + 1).toNat < 48 by omega), Bool.and_false]
      · go_ret
        refine ⟨ret_bool ?_, rfl⟩
        rw [betw_in h h', dg_hi (by omega), Bool.false_and]
      · go_ret
        refine ⟨ret_bool ?_, rfl⟩
        rw [betw_in h h', dg_lo (by omega), Bool.false_and]
    · go_enter Try.func11, Try.ntmps11
      go_wp2_with (first | go_in)
      go_ret
      exact ⟨ret_bool (betw_hi (by omega)).symm, rfl⟩
  · go_enter Try.func11, Try.ntmps11
    go_wp2_with (first | go_in)
    go_ret
    exact ⟨ret_bool (betw_lo (by omega)).symm, rfl⟩

set_option maxHeartbeats 400000 in
theorem bytes10 (t p s : ByteArray) (i : Int) (w : World) (ht : t.size ≤ maxLen) (hp : p.size ≤ maxLen) (hs : s.size ≤ maxLen) :
    Calls Try.prog 10 #[.string t, .int .i64 i, .string p, .string s] w fun e w' => e = .returned (.bool (decide (t.size + p.size + s.size ≤ 1048576))) ∧ w' = w := by
  unfold maxLen at hs ht hp
  go_enter Try.func10, Try.ntmps10
  go_wp2
  all_goals
    go_ret
    exact ⟨ret_bool (by first | (rw [decide_eq_true (by omega)]) | (rw [decide_eq_false (by omega)])), rfl⟩

set_option maxHeartbeats 400000 in
theorem bytes13 (t : ByteArray) (i c : Int) (w : World) (ht : t.size ≤ maxLen) :
    Calls Try.prog 13 #[.string t, .int .i64 i, .int .u8 c] w fun e w' => e = .returned (.bool (decide (t.size ≤ 1048576))) ∧ w' = w := by
  unfold maxLen at ht
  go_enter Try.func13, Try.ntmps13
  go_wp2
  all_goals
    go_ret
    exact ⟨ret_bool (by first | (rw [decide_eq_true (by omega)]) | (rw [decide_eq_false (by omega)])), rfl⟩
end Go.Proofs.Qxb6614745a
