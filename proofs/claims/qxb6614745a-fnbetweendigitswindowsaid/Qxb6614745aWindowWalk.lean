/- The walk of 'FnBetweenDigitsWindow'. -/
import Derived.Test.Qxb6614745aDigits
namespace Go.Proofs.Qxb6614745a
open Go.ChangeShapes Go.WideShapes Go.ChangeAt Go.RowKit Go.PlainAid

/-- a byte by its place in the list -/
def num (o : Option UInt8) : Int := match o with | some b => b.toNat | .none => 0

theorem bt_list (s : ByteArray) (k : Nat) : bt s k = num s.data.toList[k]? := by
  unfold bt
  have hz := Lib.size_eq s
  by_cases h : k < s.size
  · rw [dif_pos h, List.getElem?_eq_getElem (by omega)]; rfl
  · rw [dif_neg h, List.getElem?_eq_none (by omega)]; rfl

theorem app_data' (a b : ByteArray) : (a ++ b).data.toList = a.data.toList ++ b.data.toList := by
  rw [ByteArray.data_append, Array.toList_append]

theorem bt_window (p t s : ByteArray) (k : Nat) (h : k < t.size) : bt (p ++ t ++ s) (p.size + k) = bt t k := by
  rw [bt_list, bt_list, app_data', app_data', Lib.size_eq]
  have hz := Lib.size_eq t
  rw [List.append_assoc, List.getElem?_append_right (by omega), List.getElem?_append_left (by omega)]
  congr 2
  omega

theorem betw_window (p t s : ByteArray) (i : Int) (h : 0 < i) (h' : i + 1 < t.size) : betw (p ++ t ++ s) (p.size + i) = betw t i := by
  have hz : (p ++ t ++ s).size = p.size + t.size + s.size := by rw [ByteArray.size_append, ByteArray.size_append]
  rw [betw_in h h', betw_in (by omega) (by omega)]
  have e1 : ((p.size : Int) + i).toNat - 1 = p.size + (i.toNat - 1) := by omega
  have e2 : ((p.size : Int) + i + 1).toNat = p.size + (i + 1).toNat := by omega
  rw [e1, e2, bt_window _ _ _ _ (by omega), bt_window _ _ _ _ (by omega)]

set_option maxHeartbeats 400000 in
theorem window_early (a0 : ByteArray) (a1 : Int) (a2 : ByteArray) (a3 : ByteArray) (w0 : a0.size ≤ maxLen) (w2 : a2.size ≤ maxLen) (w3 : a3.size ≤ maxLen) (w : World)
    (hb : ¬ a0.size + a2.size + a3.size ≤ 1048576) :
    Calls Try.prog 5 #[.string a0, .int .i64 a1, .string a2, .string a3] w fun e w' => e = .returned (.bool true) ∧ Grown w w' := by
  go_enter Try.func5, Try.ntmps5
  go_wp2_with fail
  refine (bytes10 _ _ _ _ _ w0 w2 w3).mono ?_
  rintro e w' ⟨rfl, rfl⟩
  rw [decide_eq_false hb]
  go_wp2_with fail
  go_ret
  exact ⟨rfl, Grown.refl _⟩

set_option maxHeartbeats 400000 in
theorem window_off (a0 : ByteArray) (a1 : Int) (a2 : ByteArray) (a3 : ByteArray) (w0 : a0.size ≤ maxLen) (w2 : a2.size ≤ maxLen) (w3 : a3.size ≤ maxLen) (w : World)
    (hb : a0.size + a2.size + a3.size ≤ 1048576) (ho : a0.size > 262144 ∨ a2.size > 262144 ∨ a3.size > 262144 ∨ a1 < -1073741824 ∨ 1073741824 < a1) :
    Calls Try.prog 5 #[.string a0, .int .i64 a1, .string a2, .string a3] w fun e w' => e = .returned (.bool true) ∧ Grown w w' := by
  go_enter Try.func5, Try.ntmps5
  go_wp2_with fail
  refine (bytes10 _ _ _ _ _ w0 w2 w3).mono ?_
  rintro e w' ⟨rfl, rfl⟩
  rw [decide_eq_true hb]
  go_wp2_with fail
  all_goals
    go_ret
    exact ⟨rfl, Grown.refl _⟩

set_option maxHeartbeats 400000 in
theorem window_out (a0 : ByteArray) (a1 : Int) (a2 : ByteArray) (a3 : ByteArray) (w0 : a0.size ≤ maxLen) (w2 : a2.size ≤ maxLen) (w3 : a3.size ≤ maxLen) (w : World)
    (hb : a0.size + a2.size + a3.size ≤ 1048576) (h0 : a0.size ≤ 262144) (h2 : a2.size ≤ 262144) (h3 : a3.size ≤ 262144) (l1 : -1073741824 ≤ a1) (l2 : a1 ≤ 1073741824)
    (ho : a1 < 1 ∨ (a0.size : Int) < a1 + 2) :
    Calls Try.prog 5 #[.string a0, .int .i64 a1, .string a2, .string a3] w fun e w' => e = .returned (.bool true) ∧ Grown w w' := by
  go_enter Try.func5, Try.ntmps5
  go_wp2_with fail
  refine (bytes10 _ _ _ _ _ w0 w2 w3).mono ?_
  rintro e w' ⟨rfl, rfl⟩
  rw [decide_eq_true hb]
  go_wp2_with fail
  refine (betw11 _ _ _ (by omega) (by omega) (by omega)).mono ?_
  rintro e w' ⟨rfl, rfl⟩
  have hf : betw a0 a1 = false := by
    rcases ho with h | h
    · exact betw_lo (by omega)
    · exact betw_hi (by omega)
  rw [hf]
  go_wp2_with fail
  all_goals
    go_ret
    exact ⟨rfl, Grown.refl _⟩

set_option maxHeartbeats 400000 in
theorem window_in (a0 : ByteArray) (a1 : Int) (a2 : ByteArray) (a3 : ByteArray) (w0 : a0.size ≤ maxLen) (w2 : a2.size ≤ maxLen) (w3 : a3.size ≤ maxLen) (w : World)
    (hb : a0.size + a2.size + a3.size ≤ 1048576) (h0 : a0.size ≤ 262144) (h2 : a2.size ≤ 262144) (h3 : a3.size ≤ 262144) (l1 : 1 ≤ a1) (l2 : a1 ≤ 1073741824)
    (ho : a1 + 2 ≤ (a0.size : Int)) (b1 b2 : Bool) (hd1 : dg (bt a0 (a1.toNat - 1)) = b1) (hd2 : dg (bt a0 (a1 + 1).toNat) = b2) :
    Calls Try.prog 5 #[.string a0, .int .i64 a1, .string a2, .string a3] w fun e w' => e = .returned (.bool true) ∧ Grown w w' := by
  have hg := get_bt a0
  have he : betw a0 a1 = (b1 && b2) := by rw [betw_in (by omega) (by omega), hd1, hd2]
  have HE : Hid (betw a0 a1 = (b1 && b2)) := he
  clear he
  have hz : (a2 ++ a0 ++ a3).size ≤ 10000000 := by rw [ByteArray.size_append, ByteArray.size_append]; omega
  cases b1
  · go_enter Try.func5, Try.ntmps5
    go_wp2_with fail
    refine (bytes10 _ _ _ _ _ w0 w2 w3).mono ?_
    rintro e w' ⟨rfl, rfl⟩
    rw [decide_eq_true hb]
    go_wp2_with fail
    refine (betw11 _ _ _ (by omega) (by omega) (by omega)).mono ?_
    rintro e w' ⟨rfl, rfl⟩
    rw [HE.out]
    go_wp2_with fail
    refine (digit12 _ _).mono ?_
    rintro e w' ⟨rfl, rfl⟩
    rw [hd1]
    go_wp2_with fail
    refine (betw11 _ _ _ hz (by omega) (by omega)).mono ?_
    rintro e w' ⟨rfl, rfl⟩
    rw [betw_window _ _ _ _ (by omega) (by omega), HE.out]
    go_wp2_with fail
    go_ret
    exact ⟨rfl, Grown.refl _⟩
  · go_enter Try.func5, Try.ntmps5
    go_wp2_with fail
    refine (bytes10 _ _ _ _ _ w0 w2 w3).mono ?_
    rintro e w' ⟨rfl, rfl⟩
    rw [decide_eq_true hb]
    go_wp2_with fail
    refine (betw11 _ _ _ (by omega) (by omega) (by omega)).mono ?_
    rintro e w' ⟨rfl, rfl⟩
    rw [HE.out, Bool.true_and]
    go_wp2_with fail
    refine (digit12 _ _).mono ?_
    rintro e w' ⟨rfl, rfl⟩
    rw [hd1]
    go_wp2_with fail
    refine (digit12 _ _).mono ?_
    rintro e w' ⟨rfl, rfl⟩
    rw [hd2]
    cases b2
    all_goals
      go_wp2_with fail
      refine (betw11 _ _ _ hz (by omega) (by omega)).mono ?_
      rintro e w' ⟨rfl, rfl⟩
      rw [betw_window _ _ _ _ (by omega) (by omega), HE.out]
      go_wp2_with fail
      go_ret
      exact ⟨rfl, Grown.refl _⟩

theorem window_walk (a0 : ByteArray) (a1 : Int) (a2 : ByteArray) (a3 : ByteArray) (w0 : a0.size ≤ maxLen) (w2 : a2.size ≤ maxLen) (w3 : a3.size ≤ maxLen) (w : World) :
    Calls Try.prog 5 #[.string a0, .int .i64 a1, .string a2, .string a3] w fun e w' => e = .returned (.bool true) ∧ Grown w w' := by
  by_cases hb : a0.size + a2.size + a3.size ≤ 1048576
  · by_cases ho : a0.size > 262144 ∨ a2.size > 262144 ∨ a3.size > 262144 ∨ a1 < -1073741824 ∨ 1073741824 < a1
    · exact window_off a0 a1 a2 a3 w0 w2 w3 w hb ho
    · by_cases hi : a1 < 1 ∨ (a0.size : Int) < a1 + 2
      · exact window_out a0 a1 a2 a3 w0 w2 w3 w hb (by omega) (by omega) (by omega) (by omega) (by omega) hi
      · exact window_in a0 a1 a2 a3 w0 w2 w3 w hb (by omega) (by omega) (by omega) (by omega) (by omega) (by omega) _ _ rfl rfl
  · exact window_early a0 a1 a2 a3 w0 w2 w3 w hb
end Go.Proofs.Qxb6614745a
