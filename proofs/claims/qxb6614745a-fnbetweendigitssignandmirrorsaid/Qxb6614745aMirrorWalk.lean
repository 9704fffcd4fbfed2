/- The walk of 'FnBetweenDigitsSignAndMirror'. -/
import Derived.Test.Qxb6614745aMirrorParts
namespace Go.Proofs.Qxb6614745a
open Go.ChangeShapes Go.WideShapes Go.ChangeAt Go.RowKit Go.PlainAid

theorem reverse_any (s : ByteArray) (w : World) (hs : s.size ≤ 262144) :
    Calls Try.prog 14 #[.string s] w fun e w' => e = .returned (.string (strg (revF s s.size) s.size)) ∧ Grown w w' := by
  refine (reverse14 s w hs).mono ?_
  rintro e w' ⟨rfl, rfl⟩
  exact ⟨rfl, (Grown.refl _).alloc _ _⟩

theorem bt_rev (s : ByteArray) (k : Nat) (h : k < s.size) : bt (strg (revF s s.size) s.size) k = bt s (s.size - 1 - k) := by
  have e : revF s s.size k = bt s (s.size - 1 - k) := by unfold revF; rw [if_pos h]
  rw [strg_bt _ _ _ h (by rw [e]; exact bt_nonneg _ _) (by rw [e]; exact bt_le _ _), e]

theorem betw_rev (s : ByteArray) (i : Int) : betw (strg (revF s s.size) s.size) (s.size - 1 - i) = betw s i := by
  have hz := strg_size (revF s s.size) s.size
  by_cases h : 0 < i
  · by_cases h' : i + 1 < s.size
    · rw [betw_in h h', betw_in (by omega) (by omega), bt_rev _ _ (by omega), bt_rev _ _ (by omega), Bool.and_comm]
      have e1 : s.size - 1 - ((s.size : Int) - 1 - i + 1).toNat = i.toNat - 1 := by omega
      have e2 : s.size - 1 - (((s.size : Int) - 1 - i).toNat - 1) = (i + 1).toNat := by omega
      rw [e1, e2]
    · rw [betw_hi (s := s) (by omega), betw_lo (by omega)]
  · rw [betw_lo (s := s) (by omega), betw_hi (by omega)]

/-- the copied bytes, the first k of them -/
def cpF (s : ByteArray) (k j : Nat) : Int := if j < k then bt s j else 0
/-- the copied bytes, the sign's own byte turned -/
def sgF (s : ByteArray) (i : Nat) (c : Int) (j : Nat) : Int := if j = i then c else cpF s s.size j

theorem cpF_zero (s : ByteArray) : blk (fun _ => 0) s.size = blk (cpF s 0) s.size := by
  apply blk_ext; intro j _; unfold cpF; rw [if_neg (by omega)]
theorem cpF_step (s : ByteArray) (k : Nat) : (blk (cpF s k) s.size).setIfInBounds k (.int .u8 (bt s k)) = blk (cpF s (k + 1)) s.size := by
  have e : bt s k = cpF s (k + 1) k := by unfold cpF; rw [if_pos (by omega)]
  rw [e]
  apply blk_set (cpF s k) (cpF s (k + 1))
  intro j _
  unfold cpF
  by_cases h : j = k
  · subst h; simp
  · rw [if_neg h]
    by_cases h2 : j < k
    · rw [if_pos h2, if_pos (by omega)]
    · rw [if_neg h2, if_neg (by omega)]
theorem sgF_step (s : ByteArray) (i : Nat) (c : Int) : (blk (cpF s s.size) s.size).setIfInBounds i (.int .u8 c) = blk (sgF s i c) s.size := by
  have e : c = sgF s i c i := by unfold sgF; rw [if_pos rfl]
  rw [show (Value.int .u8 c) = Value.int .u8 (sgF s i c i) from by rw [← e]]
  apply blk_set (cpF s s.size) (sgF s i c)
  intro j _
  by_cases h : j = i
  · subst h; rw [if_pos rfl]
  · rw [if_neg h]; unfold sgF; rw [if_neg h]
theorem bt_sg (s : ByteArray) (i k : Nat) (c : Int) (h : k < s.size) (hk : k ≠ i) : bt (strg (sgF s i c) s.size) k = bt s k := by
  have e : sgF s i c k = bt s k := by unfold sgF cpF; rw [if_neg hk, if_pos h]
  rw [strg_bt _ _ _ h (by rw [e]; exact bt_nonneg _ _) (by rw [e]; exact bt_le _ _), e]
theorem betw_sg (s : ByteArray) (i : Int) (c : Int) (h : 0 < i) (h' : i + 1 < s.size) : betw (strg (sgF s i.toNat c) s.size) i = betw s i := by
  have hz := strg_size (sgF s i.toNat c) s.size
  rw [betw_in h h', betw_in h (by omega), bt_sg _ _ _ _ (by omega) (by omega), bt_sg _ _ _ _ (by omega) (by omega)]

set_option maxHeartbeats 400000 in
theorem mirror_off (a0 : ByteArray) (a1 : Int) (a2 : Int) (w0 : a0.size ≤ maxLen) (w : World)
    (ho : a0.size > 262144 ∨ a1 < -1073741824 ∨ 1073741824 < a1) :
    Calls Try.prog 6 #[.string a0, .int .i64 a1, .int .u8 a2] w fun e w' => e = .returned (.bool true) ∧ Grown w w' := by
  by_cases hb : a0.size ≤ 1048576
  all_goals
    go_enter Try.func6, Try.ntmps6
    go_wp2_with fail
    refine (bytes13 _ _ _ _ w0).mono ?_
    rintro e w' ⟨rfl, rfl⟩
    first | rw [decide_eq_true hb] | rw [decide_eq_false hb]
    go_wp2_with fail
    all_goals
      go_ret
      exact ⟨rfl, Grown.refl _⟩

set_option maxHeartbeats 400000 in
theorem mirror_out (a0 : ByteArray) (a1 : Int) (a2 : Int) (w0 : a0.size ≤ maxLen) (w : World)
    (h0 : a0.size ≤ 262144) (l1 : -1073741824 ≤ a1) (l2 : a1 ≤ 1073741824) (ho : a1 < 1 ∨ (a0.size : Int) < a1 + 2) :
    Calls Try.prog 6 #[.string a0, .int .i64 a1, .int .u8 a2] w fun e w' => e = .returned (.bool true) ∧ Grown w w' := by
  have hf : betw a0 a1 = false := by
    rcases ho with h | h
    · exact betw_lo (by omega)
    · exact betw_hi (by omega)
  have HF : Hid (betw a0 a1 = false) := hf
  clear hf
  have hb : a0.size ≤ 1048576 := by omega
  go_enter Try.func6, Try.ntmps6
  go_wp2_with fail
  refine (bytes13 _ _ _ _ w0).mono ?_
  rintro e w' ⟨rfl, rfl⟩
  rw [decide_eq_true hb]
  go_wp2_with fail
  refine (reverse_any _ _ h0).mono ?_
  rintro e w1 ⟨rfl, hG⟩
  go_wp2_with fail
  refine (betw11 _ _ _ (by omega) (by omega) (by omega)).mono ?_
  rintro e w' ⟨rfl, rfl⟩
  rw [HF.out]
  go_wp2_with fail
  refine (betw11 _ _ _ (by rw [strg_size]; omega) (by omega) (by omega)).mono ?_
  rintro e w' ⟨rfl, rfl⟩
  rw [betw_rev, HF.out]
  go_wp2_with fail
  all_goals
    go_ret
    exact ⟨rfl, hG⟩

set_option maxHeartbeats 800000 in
theorem mirror_in (a0 : ByteArray) (a1 : Int) (a2 : Int) (w0 : a0.size ≤ maxLen) (w : World)
    (h0 : a0.size ≤ 262144) (l1 : 1 ≤ a1) (ho : a1 + 2 ≤ (a0.size : Int)) (b1 b2 : Bool) (hd1 : dg (bt a0 (a1.toNat - 1)) = b1) (hd2 : dg (bt a0 (a1 + 1).toNat) = b2) :
    Calls Try.prog 6 #[.string a0, .int .i64 a1, .int .u8 a2] w fun e w' => e = .returned (.bool true) ∧ Grown w w' := by
  have he : betw a0 a1 = (b1 && b2) := by rw [betw_in (by omega) (by omega), hd1, hd2]
  have HE : Hid (betw a0 a1 = (b1 && b2)) := he
  clear he
  have hb : a0.size ≤ 1048576 := by omega
  have hg := get_bt a0
  have hm := fun w : World => make_bytes a0.size h0 w
  rw [cpF_zero a0] at hm
  have hget := fun k h => blk_get (cpF a0 k) a0.size k h
  have hget2 := blk_get (cpF a0 a0.size) a0.size a1.toNat (by omega)
  have hconv := fun w : World => conv_bytes (sgF a0 a1.toNat a2) a0.size a0.size w.heap.size (w.alloc (.cells (blk (sgF a0 a1.toNat a2) a0.size) 5)) (fun i hi => by rw [World.cell?_alloc_at (hn := rfl)]; exact blk_get _ _ _ hi)
  have hst := cpF_step a0
  have hst2 := sgF_step a0 a1.toNat a2
  cases b1
  · go_enter Try.func6, Try.ntmps6
    go_wp2_with fail
    refine (bytes13 _ _ _ _ w0).mono ?_
    rintro e w' ⟨rfl, rfl⟩
    rw [decide_eq_true hb]
    go_wp2_with fail
    refine (reverse_any _ _ h0).mono ?_
    rintro e w1 ⟨rfl, hG⟩
    go_wp2_with fail
    refine (betw11 _ _ _ (by omega) (by omega) (by omega)).mono ?_
    rintro e w' ⟨rfl, rfl⟩
    rw [HE.out, Bool.false_and]
    go_wp2_with fail
    refine (betw11 _ _ _ (by rw [strg_size]; omega) (by omega) (by omega)).mono ?_
    rintro e w' ⟨rfl, rfl⟩
    rw [betw_rev, HE.out, Bool.false_and]
    go_wp2_with fail
    refine (list15 _ _ (bt_nonneg _ _) (bt_le _ _)).mono ?_
    rintro e w2 ⟨rfl, rfl⟩
    rw [hd1]
    go_wp2_with fail
    go_loopw [13] (fun i wr => ∃ k : Nat, k ≤ a0.size ∧ i = .int .i64 k ∧ wr = w2.alloc (.cells (blk (cpF a0 k) a0.size) 5)) (fun i _ => a0.size - (intOf i).toNat)
    case atStart => exact ⟨0, Nat.zero_le _, rfl, rfl⟩
    case round =>
      obtain ⟨k, hk, rfl, rfl⟩ := hrel
      by_cases hlt : k < a0.size
      · go_wp2_with fail
        go_roundw
        case rel => exact ⟨k + 1, by omega, by go_num, rfl⟩
        case measure => simp [intOf]; omega
      · obtain rfl : k = a0.size := by omega
        go_wp2_with fail
        refine (betw11 _ _ _ (by rw [strg_size]; omega) (by omega) (by omega)).mono ?_
        rintro e w' ⟨rfl, rfl⟩
        rw [betw_sg _ _ _ (by omega) (by omega), HE.out]
        go_wp2_with fail
        go_ret
        exact ⟨rfl, hG.alloc _ _⟩
  · go_enter Try.func6, Try.ntmps6
    go_wp2_with fail
    refine (bytes13 _ _ _ _ w0).mono ?_
    rintro e w' ⟨rfl, rfl⟩
    rw [decide_eq_true hb]
    go_wp2_with fail
    refine (reverse_any _ _ h0).mono ?_
    rintro e w1 ⟨rfl, hG⟩
    go_wp2_with fail
    refine (betw11 _ _ _ (by omega) (by omega) (by omega)).mono ?_
    rintro e w' ⟨rfl, rfl⟩
    rw [HE.out, Bool.true_and]
    go_wp2_with fail
    refine (betw11 _ _ _ (by rw [strg_size]; omega) (by omega) (by omega)).mono ?_
    rintro e w' ⟨rfl, rfl⟩
    rw [betw_rev, HE.out, Bool.true_and]
    go_wp2_with fail
    refine (list15 _ _ (bt_nonneg _ _) (bt_le _ _)).mono ?_
    rintro e w' ⟨rfl, rfl⟩
    rw [hd1]
    go_wp2_with fail
    refine (list15 _ _ (bt_nonneg _ _) (bt_le _ _)).mono ?_
    rintro e w2 ⟨rfl, rfl⟩
    rw [hd2]
    cases b2
    all_goals
      go_wp2_with fail
      go_loopw [13] (fun i wr => ∃ k : Nat, k ≤ a0.size ∧ i = .int .i64 k ∧ wr = w2.alloc (.cells (blk (cpF a0 k) a0.size) 5)) (fun i _ => a0.size - (intOf i).toNat)
      case atStart => exact ⟨0, Nat.zero_le _, rfl, rfl⟩
      case round =>
        obtain ⟨k, hk, rfl, rfl⟩ := hrel
        by_cases hlt : k < a0.size
        · go_wp2_with fail
          go_roundw
          case rel => exact ⟨k + 1, by omega, by go_num, rfl⟩
          case measure => simp [intOf]; omega
        · obtain rfl : k = a0.size := by omega
          go_wp2_with fail
          refine (betw11 _ _ _ (by rw [strg_size]; omega) (by omega) (by omega)).mono ?_
          rintro e w' ⟨rfl, rfl⟩
          rw [betw_sg _ _ _ (by omega) (by omega), HE.out]
          go_wp2_with fail
          go_ret
          exact ⟨rfl, hG.alloc _ _⟩

theorem mirror_walk (a0 : ByteArray) (a1 : Int) (a2 : Int) (w0 : a0.size ≤ maxLen) (w : World) :
    Calls Try.prog 6 #[.string a0, .int .i64 a1, .int .u8 a2] w fun e w' => e = .returned (.bool true) ∧ Grown w w' := by
  by_cases ho : a0.size > 262144 ∨ a1 < -1073741824 ∨ 1073741824 < a1
  · exact mirror_off a0 a1 a2 w0 w ho
  · by_cases hi : a1 < 1 ∨ (a0.size : Int) < a1 + 2
    · exact mirror_out a0 a1 a2 w0 w (by omega) (by omega) (by omega) hi
    · exact mirror_in a0 a1 a2 w0 w (by omega) (by omega) (by omega) _ _ rfl rfl
end Go.Proofs.Qxb6614745a
