/- The law's own tables: how often each index occurs, which were seen, and their order. -/
import Derived.Test.Qxb6615011aPlain
namespace Go.Proofs.Qxb6615011a
open Go.ChangeShapes Go.WideShapes Go.ChangeAt Go.RowKit
set_option linter.unusedVariables false

theorem info4 : (Try.prog.info? 4).map (fun i => (i.zero, i.size, i.bytes)) = some (some (.bool false), 1, 1) := by kernel_rfl

theorem make_ints (n : Nat) (hn : n ≤ 131072) (w : World) :
    (Instr.makeSlice 23 (.int .i64 (n : Int)) (.int .i64 (n : Int))).run Try.prog w = .ok (.slice (some ⟨w.heap.size, 0, none⟩) n n) (w.alloc (.cells (madeCells #[.int .i64 0] n) 3)) := by
  obtain ⟨i, hi, hz, hs, hb⟩ := info_parts info3
  have hr := run_make (P := Try.prog) w 23 3 i _ Try.underlying23 hi hz .i64 .i64 n n (by omega) (Int.le_refl _) (by rw [hb]; omega) (by omega)
  rw [hr, hs]
  simp
  rfl
theorem make_cap (n : Nat) (hn : n ≤ 131072) (w : World) :
    (Instr.makeSlice 23 (.int .i64 0) (.int .i64 (n : Int))).run Try.prog w = .ok (.slice (some ⟨w.heap.size, 0, none⟩) 0 n) (w.alloc (.cells (madeCells #[.int .i64 0] n) 3)) := by
  obtain ⟨i, hi, hz, hs, hb⟩ := info_parts info3
  have hr := run_make (P := Try.prog) w 23 3 i _ Try.underlying23 hi hz .i64 .i64 0 n (by omega) (by omega) (by rw [hb]; omega) (by omega)
  rw [hr, hs]
  simp
  rfl
theorem make_bools (n : Nat) (hn : n ≤ 131072) (w : World) :
    (Instr.makeSlice 29 (.int .i64 (n : Int)) (.int .i64 (n : Int))).run Try.prog w = .ok (.slice (some ⟨w.heap.size, 0, none⟩) n n) (w.alloc (.cells (madeCells #[.bool false] n) 4)) := by
  obtain ⟨i, hi, hz, hs, hb⟩ := info_parts info4
  have hr := run_make (P := Try.prog) w 29 4 i _ Try.underlying29 hi hz .i64 .i64 n n (by omega) (Int.le_refl _) (by rw [hb]; omega) (by omega)
  rw [hr, hs]
  simp
  rfl

theorem made_cell (w : World) (z : Value) (m : Nat) (t : TypeId) (j : Nat) (hj : j < m) : (w.alloc (.cells (madeCells #[z] m) t)).cell? ⟨w.heap.size, j, none⟩ = some z ∧ (w.alloc (.cells (madeCells #[z] m) t)).frozen? ⟨w.heap.size, j, none⟩ = false := by
  refine ⟨?_, by simp⟩
  rw [World.cell?_alloc_at (hn := rfl)]
  have e : (madeCells #[z] m)[j]? = (madeCells #[z] m).toList[j]? := by simp
  rw [e, toList_madeCells_one]
  simp [hj]

/-- the tables when the first k indices are read; v: the slice of the order -/
structure CntRel (w : World) (n : Nat) (L : List Nat) (k : Nat) (wr : World) : Prop where
  below : Below w.heap.size w wr
  size : w.heap.size + 3 ≤ wr.heap.size
  cnt : ∀ j, j < n → wr.cell? ⟨w.heap.size, j, none⟩ = some (.int .i64 (cntK L k j)) ∧ wr.frozen? ⟨w.heap.size, j, none⟩ = false
  seen : ∀ j, j < n → wr.cell? ⟨w.heap.size + 1, j, none⟩ = some (.bool (inL (L.take k) j)) ∧ wr.frozen? ⟨w.heap.size + 1, j, none⟩ = false
  own : wr.ownsRow (w.heap.size + 1 + 1) 3 1 (.slice (some ⟨w.heap.size + 1 + 1, 0, none⟩) (firsts (L.take k)).length L.length) (firsts (L.take k)).length (intCells (firsts (L.take k)))

theorem cntRel_start (w : World) (n : Nat) (L : List Nat) (hL : L.length ≤ maxLen) :
    CntRel w n L 0 (((w.alloc (.cells (madeCells #[.int .i64 0] n) 3)).alloc (.cells (madeCells #[.bool false] n) 4)).alloc (.cells (madeCells #[.int .i64 0] L.length) 3)) where
  below := (((Below.refl _ _).alloc (Nat.le_refl _) _).alloc (by simp) _).alloc (by simp; omega) _
  size := by simp
  cnt := fun j hj => by
    rw [World.cell?_alloc_lt _ _ _ (by simp; omega), World.cell?_alloc_lt _ _ _ (by simp), World.frozen?_alloc_past _ _ _ (by simp; omega), World.frozen?_alloc_past _ _ _ (by simp), cntK_zero]
    exact made_cell w _ _ _ j hj
  seen := fun j hj => by
    rw [World.cell?_alloc_lt _ _ _ (by simp), World.frozen?_alloc_past _ _ _ (by simp)]
    have := made_cell (w.alloc (.cells (madeCells #[.int .i64 0] n) 3)) (.bool false) n 4 j hj
    simpa [inL] using this
  own := by
    have h := World.ownsRow_lit (base := w.heap.size + 1 + 1) (e := 3) (size := 1) ((w.alloc (.cells (madeCells #[.int .i64 0] n) 3)).alloc (.cells (madeCells #[.bool false] n) 4)) (madeCells #[.int .i64 0] L.length) L.length (by simp) hL (by simp [madeCells])
    refine ⟨by simp [firsts, intCells], .inr ⟨w.heap.size + 1 + 1, L.length, madeCells #[.int .i64 0] L.length, rfl, Nat.le_refl _, ?_, by simp [firsts], hL, by simp [madeCells], by simp [firsts, intCells]⟩⟩
    have := heap_alloc_new ((w.alloc (.cells (madeCells #[.int .i64 0] n) 3)).alloc (.cells (madeCells #[.bool false] n) 4)) (.cells (madeCells #[.int .i64 0] L.length) 3)
    simpa using this

section
variable {w wr w1 : World} {n k : Nat} {L : List Nat}

theorem cell_set_same {a : Addr} {u : Value} (v : Value) (h : wr.cell? a = some u) : (wr.setCell a v).cell? a = some v := World.cell?_setCell_same _ _ _ h
theorem cell_set_other (a b : Addr) (v : Value) (h : a ≠ b) : (wr.setCell a v).cell? b = wr.cell? b := World.cell?_setCell_other _ _ _ _ h

/-- the index was seen before -/
theorem cntRel_old (h : CntRel w n L k wr) (hk : k < L.length) (hj : L[k] < n) (hin : inL (L.take k) L[k] = true) : CntRel w n L (k + 1) (wr.setCell ⟨w.heap.size, L[k], none⟩ (.int .i64 (cntK L k L[k] + 1))) where
  below := h.below.setCell (Nat.le_refl _) _
  size := by simpa using h.size
  cnt := fun j hjn => by
    refine ⟨?_, by simpa using (h.cnt j hjn).2⟩
    rw [cntK_step L k j hk]
    by_cases e : j = L[k]
    · rw [if_pos e, e]
      exact cell_set_same _ (h.cnt _ hj).1
    · rw [if_neg e, cell_set_other _ _ _ (by intro hh; have := congrArg Addr.off hh; simp only at this; omega)]
      exact (h.cnt j hjn).1
  seen := fun j hjn => by
    refine ⟨?_, by simpa using (h.seen j hjn).2⟩
    rw [cell_set_other _ _ _ (by intro hh; have := congrArg Addr.block hh; simp only at this; omega), (h.seen j hjn).1]
    have : inL (L.take (k + 1)) j = inL (L.take k) j := by
      rw [inL_step L k j hk]
      by_cases e : j = L[k]
      · rw [e, hin]; rfl
      · rw [decide_eq_false e, Bool.or_false]
    rw [this]
  own := by
    have e : firsts (L.take (k + 1)) = firsts (L.take k) := by
      rw [firsts_step L k hk]
      unfold noted
      rw [inL_firsts, hin, if_pos rfl]
    rw [e]
    exact ownsRow_setCell_below h.own (by show w.heap.size < _; omega) _

/-- the index is new -/
theorem cntRel_new (h : CntRel w n L k wr) (hk : k < L.length) (hj : L[k] < n) (hin : inL (L.take k) L[k] = false)
    (hown : w1.ownsRow (w.heap.size + 1 + 1) 3 1 (.slice (some ⟨w.heap.size + 1 + 1, 0, none⟩) ((firsts (L.take k)).length + 1) L.length) ((firsts (L.take k)).length + 1) (intCells (firsts (L.take k)) ++ [.int .i64 (L[k] : Int)]))
    (hg : (((wr.setCell ⟨w.heap.size, L[k], none⟩ (.int .i64 (cntK L k L[k] + 1))).setCell ⟨w.heap.size + 1, L[k], none⟩ (.bool true)).alloc (.cells #[.int .i64 (L[k] : Int)] 3)).grownBy w1 (some (w.heap.size + 1 + 1))) :
    CntRel w n L (k + 1) w1 := by
  have hz := h.size
  have hb : Below (w.heap.size + 1 + 1) ((wr.setCell ⟨w.heap.size, L[k], none⟩ (.int .i64 (cntK L k L[k] + 1))).setCell ⟨w.heap.size + 1, L[k], none⟩ (.bool true)) w1 := by
    refine ((Below.refl _ _).alloc (by simp; omega) _).trans ⟨hg.os, hg.tape, hg.output, hg.size, fun i hi => hg.block i (by simp; omega) (by simp; omega)⟩
  have e : firsts (L.take (k + 1)) = firsts (L.take k) ++ [L[k]] := by
    rw [firsts_step L k hk]
    unfold noted
    rw [inL_firsts, hin]
    rfl
  refine ⟨?_, ?_, fun j hjn => ?_, fun j hjn => ?_, ?_⟩
  · exact ((h.below.setCell (Nat.le_refl _) _).setCell (by show w.heap.size ≤ w.heap.size + 1; omega) _).trans (hb.mono (by omega))
  · have := hg.size; simp at this; omega
  · rw [hb.cell (p := ⟨w.heap.size, j, none⟩) (by show w.heap.size < _; omega), hb.frozen (p := ⟨w.heap.size, j, none⟩) (by show w.heap.size < _; omega)]
    refine ⟨?_, by simpa using (h.cnt j hjn).2⟩
    rw [cntK_step L k j hk, cell_set_other _ _ _ (by intro hh; have := congrArg Addr.block hh; simp only at this; omega)]
    by_cases e : j = L[k]
    · rw [if_pos e, e]
      exact cell_set_same _ (h.cnt _ hj).1
    · rw [if_neg e, cell_set_other _ _ _ (by intro hh; have := congrArg Addr.off hh; simp only at this; omega)]
      exact (h.cnt j hjn).1
  · rw [hb.cell (p := ⟨w.heap.size + 1, j, none⟩) (by show w.heap.size + 1 < _; omega), hb.frozen (p := ⟨w.heap.size + 1, j, none⟩) (by show w.heap.size + 1 < _; omega)]
    refine ⟨?_, by simpa using (h.seen j hjn).2⟩
    rw [inL_step L k j hk]
    by_cases e : j = L[k]
    · rw [e, cell_set_same (u := .bool (inL (L.take k) L[k])) _ (by rw [cell_set_other _ _ _ (by intro hh; have := congrArg Addr.block hh; simp only at this; omega)]; exact (h.seen _ hj).1)]
      simp
    · rw [cell_set_other _ _ _ (by intro hh; have := congrArg Addr.off hh; simp only at this; omega), cell_set_other _ _ _ (by intro hh; have := congrArg Addr.block hh; simp only at this; omega), (h.seen j hjn).1]
      rw [decide_eq_false e, Bool.or_false]
  · rw [e]
    simpa [intCells] using hown
end
end Go.Proofs.Qxb6615011a
