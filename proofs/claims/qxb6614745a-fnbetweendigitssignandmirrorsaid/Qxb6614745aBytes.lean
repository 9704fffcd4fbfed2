/- Plain facts on rows of bytes: what a block of bytes holds, and the string that it converts to. -/
import Derived.Test.Qxb6614745aDigits
import Derived.Laws.BytesArg
import Derived.Laws.OwnMore
namespace Go.Proofs.Qxb6614745a
open Go.ChangeShapes Go.WideShapes Go.ChangeAt Go.RowKit Go.PlainAid

/-- the cells of n bytes -/
def blk (f : Nat → Int) (n : Nat) : Array Value := ((List.range n).map fun j => Value.int .u8 (f j)).toArray
/-- the string of n bytes -/
def strg (f : Nat → Int) (n : Nat) : ByteArray := strOfNums ((List.range n).map f)

theorem blk_size (f : Nat → Int) (n : Nat) : (blk f n).size = n := by simp [blk]
theorem blk_get (f : Nat → Int) (n k : Nat) (h : k < n) : (blk f n)[k]? = some (.int .u8 (f k)) := by simp [blk, h]
theorem blk_ext {f g : Nat → Int} {n : Nat} (h : ∀ j, j < n → f j = g j) : blk f n = blk g n := by
  unfold blk
  congr 1
  apply List.map_congr_left
  intro j hj
  rw [h j (by simpa using hj)]
theorem blk_set (f g : Nat → Int) (n k : Nat) (h : ∀ j, j < n → g j = if j = k then g k else f j) : (blk f n).setIfInBounds k (.int .u8 (g k)) = blk g n := by
  apply Array.ext_getElem?
  intro j
  rw [Array.getElem?_setIfInBounds, blk_size]
  by_cases hj : j < n
  · rw [blk_get g n j hj, h j hj]
    by_cases e : k = j
    · subst e; simp [hj]
    · rw [if_neg e, blk_get f n j hj, if_neg (fun h => e h.symm)]
  · have e1 : (blk g n)[j]? = .none := by apply Array.getElem?_eq_none; rw [blk_size]; omega
    have e2 : (blk f n)[j]? = .none := by apply Array.getElem?_eq_none; rw [blk_size]; omega
    rw [e1, e2]
    by_cases e : k = j
    · rw [if_pos e, if_neg (by omega)]
    · rw [if_neg e]
theorem blk_made (n : Nat) : madeCells #[.int .u8 0] n = blk (fun _ => 0) n := by
  apply Array.ext'
  rw [toList_madeCells_one]
  unfold blk
  rw [List.toList_toArray]
  apply List.ext_getElem?
  intro j
  by_cases hj : j < n <;> simp [hj]

theorem strg_size (f : Nat → Int) (n : Nat) : (strg f n).size = n := by unfold strg; rw [strOfNums_size]; simp
theorem strg_bt (f : Nat → Int) (n k : Nat) (h : k < n) (h0 : 0 ≤ f k) (h1 : f k ≤ 255) : bt (strg f n) k = f k := by
  have hk : k < (strg f n).size := by rw [strg_size]; exact h
  unfold bt
  rw [dif_pos hk]
  have e : (strg f n)[k] = (strg f n).data.toList[k]'(by rw [← Lib.size_eq]; exact hk) := rfl
  rw [e]
  have e2 : (strg f n).data.toList[k]'(by rw [← Lib.size_eq]; exact hk) = UInt8.ofNat (f k).toNat := by simp [strg, strOfNums_data]
  rw [e2, UInt8.toNat_ofNat']
  omega

theorem bytes_info : (Try.prog.info? 5).map (fun i => (i.zero, i.size, i.bytes)) = some (some (.int .u8 0), 1, 1) := by kernel_rfl

theorem make_bytes (n : Nat) (hn : n ≤ 262144) (w : World) :
    (Instr.makeSlice 29 (.int .i64 (n : Int)) (.int .i64 (n : Int))).run Try.prog w = .ok (.slice (some ⟨w.heap.size, 0, none⟩) n n) (w.alloc (.cells (blk (fun _ => 0) n) 5)) := by
  obtain ⟨i, hi, hz, hs, hb⟩ := info_parts bytes_info
  have hr := run_make (P := Try.prog) w 29 5 i (.int .u8 0) Try.underlying29 hi hz .i64 .i64 n n (by omega) (Int.le_refl _) (by rw [hb]; omega) (by omega)
  rw [hr, hs, ← blk_made]
  simp
  rfl

theorem conv_bytes (f : Nat → Int) (n cap g : Nat) (w : World) (h : ∀ i, i < n → w.cell? ⟨g, i, none⟩ = some (.int .u8 (f i))) :
    (convert 29 9 (.slice (some ⟨g, 0, none⟩) n cap)).run Try.prog w = .ok (.string (strg f n)) w := by
  refine run_convert_bytes_arg (P := Try.prog) w 29 5 Try.underlying29 Try.underlying5 g 0 n cap ((List.range n).map f) (by simp) (fun i hi => ?_) 9 Try.underlying9
  rw [Nat.zero_add, h i hi]
  simp [List.getD, hi]
end Go.Proofs.Qxb6614745a
