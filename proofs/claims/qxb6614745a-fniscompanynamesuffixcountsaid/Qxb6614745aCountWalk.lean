/- The walk of 'FnIsCompanyNameSuffixCount'. -/
import Derived.Test.Qxb6614745aNames
namespace Go.Proofs.Qxb6614745a
open Go.ChangeShapes Go.WideShapes Go.ChangeAt Go.RowKit

/-- how many tails of s are names -/
def cnt (s : ByteArray) : Nat := if isName s.data.toList = true then s.size - 6 else 0

theorem cnt_le (s : ByteArray) : cnt s ≤ s.size := by unfold cnt; split <;> omega

theorem tail_data (s : ByteArray) (k : Nat) : (s.extract k s.size).data.toList = s.data.toList.drop k := by
  rw [Lib.extract_data, Lib.size_eq, List.take_of_length_le (by simp)]

theorem isName_tail (s : ByteArray) (k : Nat) (_h : k ≤ s.size) : isName (s.extract k s.size).data.toList = decide (k < cnt s) := by
  rw [tail_data]
  have hz := Lib.size_eq s
  unfold cnt
  rw [hz]
  generalize s.data.toList = l
  unfold isName
  rw [List.length_drop, List.drop_drop]
  by_cases h6 : 6 < l.length - k
  · rw [decide_eq_true h6, decide_eq_true (show 6 < l.length by omega), show k + (l.length - k - 6) = l.length - 6 from by omega]
    by_cases hg : (l.drop (l.length - 6) == gs) = true
    · simp [hg]; omega
    · rw [Bool.not_eq_true] at hg
      simp [hg]
  · rw [decide_eq_false h6]
    rw [Bool.false_and]
    symm
    apply decide_eq_false
    split <;> omega

theorem cnt_hit (s : ByteArray) (h : 6 < s.size) (h1 : (s.extract (s.size - 6) s.size).toList = [229, 133, 172, 229, 143, 184]) : cnt s = s.size - 6 := by
  rw [drop_bytes] at h1
  unfold cnt isName
  rw [h1, ← Lib.size_eq, decide_eq_true h]; rfl

theorem cnt_miss (s : ByteArray) (h1 : ¬ (s.extract (s.size - 6) s.size).toList = [229, 133, 172, 229, 143, 184]) : cnt s = 0 := by
  unfold cnt
  rw [← isName_miss s h1]; rfl

theorem cnt_short (s : ByteArray) (h : s.size ≤ 6) : cnt s = 0 := by
  unfold cnt
  rw [isName_short _ (by rw [← Lib.size_eq]; omega)]; rfl

set_option maxHeartbeats 800000 in
theorem count_walk (a0 : ByteArray) (w0 : a0.size ≤ maxLen) (w : World) :
    Calls Try.prog 4 #[.string a0] w fun e w' => e = .returned (.bool true) ∧ Grown w w' := by
  have hs := w0
  unfold maxLen at hs
  by_cases hb : a0.size ≤ 65536
  · have hb' : decide (a0.size ≤ 1048576) = true := decide_eq_true (by omega)
    have hN := cnt_le a0
    have hT := isName_tail a0
    obtain ⟨N, eN⟩ : ∃ N, N = cnt a0 := ⟨_, rfl⟩
    rw [← eN] at hN hT
    have HT : Hid (∀ (k : Nat), k ≤ a0.size → isName (a0.extract k a0.size).data.toList = decide (k < N)) := hT
    have HN : Hid (N = cnt a0) := eN
    clear eN hT
    go_enter Try.func4, Try.ntmps4
    go_wp2_with fail
    refine (bytes9 _ _ w0).mono ?_
    rintro e w' ⟨rfl, rfl⟩
    rw [hb']
    go_wp2_with fail
    go_loop [3, 4, 5] (fun c r i => ∃ k : Nat, k ≤ a0.size + 1 ∧ i = .int .i64 k ∧ c = .int .i64 (min k N : Nat) ∧ r = .bool (decide (N < k))) (fun _ _ i => a0.size + 1 - (intOf i).toNat)
    case atStart => exact ⟨0, by omega, rfl, by simp, by simp⟩
    case round =>
      obtain ⟨k, hk, rfl, rfl, rfl⟩ := hrel
      by_cases hlt : k ≤ a0.size
      · have hcall := HT.out k hlt
        have HC : Hid (isName (a0.extract k a0.size).data.toList = decide (k < N)) := hcall
        clear hcall
        have hx : (a0.extract k a0.size).size ≤ maxLen := by
          unfold maxLen; rw [ByteArray.size_extract]; omega
        by_cases hkN : k < N
        · have hr : decide (N < k) = false := decide_eq_false (by omega)
          go_wp2_with fail
          refine (name_any _ _ hx).mono ?_
          rintro e w' ⟨rfl, rfl⟩
          rw [HC.out, decide_eq_true hkN]
          go_wp2_with fail
          go_round
          case rel => exact ⟨k + 1, by omega, by go_num, by go_num, by rw [decide_eq_false (by omega)]⟩
          case measure => simp [intOf]; omega
        · go_wp2_with fail
          refine (name_any _ _ hx).mono ?_
          rintro e w' ⟨rfl, rfl⟩
          rw [HC.out, decide_eq_false hkN]
          go_wp2_with fail
          go_round
          case rel => exact ⟨k + 1, by omega, by go_num, by go_num, by rw [decide_eq_true (by omega)]⟩
          case measure => simp [intOf]; omega
      · go_wp2_with fail
        · go_ret
          have h1 : 6 < a0.size := by omega
          have h2 : ((a0.extract (a0.size - 6) a0.size).toList == [229, 133, 172, 229, 143, 184]) = true := by assumption
          have h3 := cnt_hit a0 h1 (by simpa using h2)
          have h4 := HN.out
          exact ⟨ret_bool (by rw [beq_iff_eq]; omega), Grown.refl _⟩
        · go_ret
          have h2 : ((a0.extract (a0.size - 6) a0.size).toList == [229, 133, 172, 229, 143, 184]) = false := by assumption
          have h3 := cnt_miss a0 (by simpa using h2)
          have h4 := HN.out
          exact ⟨ret_bool (by rw [beq_iff_eq]; omega), Grown.refl _⟩
        · go_ret
          have h3 := cnt_short a0 (by omega)
          have h4 := HN.out
          exact ⟨ret_bool (by rw [beq_iff_eq]; omega), Grown.refl _⟩
  · by_cases hb1 : a0.size ≤ 1048576
    · have hb' : decide (a0.size ≤ 1048576) = true := decide_eq_true hb1
      go_enter Try.func4, Try.ntmps4
      go_wp2_with fail
      refine (bytes9 _ _ w0).mono ?_
      rintro e w' ⟨rfl, rfl⟩
      rw [hb']
      go_wp2_with fail
      go_ret
      exact ⟨rfl, Grown.refl _⟩
    · have hb' : decide (a0.size ≤ 1048576) = false := decide_eq_false hb1
      go_enter Try.func4, Try.ntmps4
      go_wp2_with fail
      refine (bytes9 _ _ w0).mono ?_
      rintro e w' ⟨rfl, rfl⟩
      rw [hb']
      go_wp2_with fail
      go_ret
      exact ⟨rfl, Grown.refl _⟩
end Go.Proofs.Qxb6614745a
