/- The contracts of 'zzpb1Reverse' and 'zzpb1DigitInList'. -/
import Derived.Test.Qxb6614745aBytes
namespace Go.Proofs.Qxb6614745a
open Go.ChangeShapes Go.WideShapes Go.ChangeAt Go.RowKit Go.PlainAid

/-- the reversed bytes, the first k of them -/
def revF (s : ByteArray) (k j : Nat) : Int := if j < k then bt s (s.size - 1 - j) else 0

theorem revF_step (s : ByteArray) (k : Nat) (v : Int) (hv : v = bt s (s.size - 1 - k)) : (blk (revF s k) s.size).setIfInBounds k (.int .u8 v) = blk (revF s (k + 1)) s.size := by
  have e : v = revF s (k + 1) k := by unfold revF; rw [if_pos (by omega)]; exact hv
  rw [e]
  apply blk_set (revF s k) (revF s (k + 1))
  intro j _
  unfold revF
  by_cases h : j = k
  · subst h; simp
  · rw [if_neg h]
    by_cases h2 : j < k
    · rw [if_pos h2, if_pos (by omega)]
    · rw [if_neg h2, if_neg (by omega)]

theorem revF_zero (s : ByteArray) : blk (fun _ => 0) s.size = blk (revF s 0) s.size := by
  apply blk_ext; intro j _; unfold revF; rw [if_neg (by omega)]

set_option maxHeartbeats 400000 in
theorem reverse14 (s : ByteArray) (w : World) (hs : s.size ≤ 262144) :
    Calls Try.prog 14 #[.string s] w fun e w' => e = .returned (.string (strg (revF s s.size) s.size)) ∧ w' = w.alloc (.cells (blk (revF s s.size) s.size) 5) := by
  have hg := get_bt s
  have hm := fun w : World => make_bytes s.size hs w
  rw [revF_zero s] at hm
  have hget := fun k h => blk_get (revF s k) s.size k h
  have hconv := fun w : World => conv_bytes (revF s s.size) s.size s.size w.heap.size (w.alloc (.cells (blk (revF s s.size) s.size) 5)) (fun i hi => by rw [World.cell?_alloc_at (hn := rfl)]; exact blk_get _ _ _ hi)
  go_enter Try.func14, Try.ntmps14
  go_wp2
  go_loopw [5] (fun i wr => ∃ k : Nat, k ≤ s.size ∧ i = .int .i64 k ∧ wr = w.alloc (.cells (blk (revF s k) s.size) 5)) (fun i _ => s.size - (intOf i).toNat)
  case atStart => exact ⟨0, Nat.zero_le _, rfl, rfl⟩
  case round =>
    obtain ⟨k, hk, rfl, rfl⟩ := hrel
    by_cases hlt : k < s.size
    · go_wp2
      go_roundw
      case rel => exact ⟨k + 1, by omega, by go_num, by rw [revF_step s k _ rfl]⟩
      case measure => simp [intOf]; omega
    · obtain rfl : k = s.size := by omega
      go_wp2
      go_ret
      exact ⟨rfl, rfl⟩

theorem ten_digits (k : Nat) (h : k < ({ data := #[48, 49, 50, 51, 52, 53, 54, 55, 56, 57] } : ByteArray).size) :
    (((({ data := #[48, 49, 50, 51, 52, 53, 54, 55, 56, 57] } : ByteArray)[k]'h).toNat : Nat) : Int) = 48 + k := by
  have h' : k < 10 := h
  match k, h' with
  | 0, _ => rfl
  | 1, _ => rfl
  | 2, _ => rfl
  | 3, _ => rfl
  | 4, _ => rfl
  | 5, _ => rfl
  | 6, _ => rfl
  | 7, _ => rfl
  | 8, _ => rfl
  | 9, _ => rfl

set_option maxHeartbeats 400000 in
theorem list15 (c : Int) (w : World) (_h0 : 0 ≤ c) (_h1 : c ≤ 255) :
    Calls Try.prog 15 #[.int .u8 c] w fun e w' => e = .returned (.bool (dg c)) ∧ w' = w := by
  have hd := ten_digits
  go_enter Try.func15, Try.ntmps15
  go_wp2
  go_loop [3] (fun i => ∃ k : Nat, k ≤ 10 ∧ i = .int .i64 k ∧ (c < 48 ∨ (48 : Int) + k ≤ c)) (fun i => 10 - (intOf i).toNat)
  case atStart => exact ⟨0, by omega, rfl, by omega⟩
  case round =>
    obtain ⟨k, hk, rfl, hc⟩ := hrel
    by_cases hlt : k < 10
    · go_wp2
      · go_ret
        have he : ((48 : Int) + k == c) = true := by assumption
        rw [beq_iff_eq] at he
        exact ⟨ret_bool (dg_in (by omega) (by omega)).symm, rfl⟩
      · have he : ((48 : Int) + k == c) = false := by assumption
        rw [beq_eq_false_iff_ne] at he
        go_round
        case rel => exact ⟨k + 1, by omega, by go_num, by omega⟩
        case measure => simp [intOf]; omega
    · go_wp2
      go_ret
      refine ⟨ret_bool ?_, rfl⟩
      rcases hc with hc | hc
      · rw [dg_lo hc]
      · rw [dg_hi (by omega)]
end Go.Proofs.Qxb6614745a
