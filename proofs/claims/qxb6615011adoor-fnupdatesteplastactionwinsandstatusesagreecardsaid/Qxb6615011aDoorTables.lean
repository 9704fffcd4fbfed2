/- The law's own tables: the last action at each step, which steps were touched, which were marked. -/
import Derived.Test.Qxb6615011aDoorPlain
namespace Go.Proofs.Qxb6615011aDoor
open Go.ChangeShapes Go.WideShapes Go.ChangeAt Go.RowKit
set_option linter.unusedVariables false

theorem info4 : (Tryd.prog.info? 4).map (fun i => (i.zero, i.size, i.bytes)) = some (some (.bool false), 1, 1) := by kernel_rfl
theorem info9 : (Tryd.prog.info? 9).map (fun i => (i.zero, i.size, i.bytes)) = some (some (.string ⟨#[]⟩), 1, 16) := by kernel_rfl

theorem make_strs (n : Nat) (hn : n ≤ 131072) (w : World) :
    (Instr.makeSlice 22 (.int .i64 (n : Int)) (.int .i64 (n : Int))).run Tryd.prog w = .ok (.slice (some ⟨w.heap.size, 0, none⟩) n n) (w.alloc (.cells (madeCells #[.string ⟨#[]⟩] n) 9)) := by
  obtain ⟨i, hi, hz, hs, hb⟩ := info_parts info9
  have hr := run_make (P := Tryd.prog) w 22 9 i _ Tryd.underlying22 hi hz .i64 .i64 n n (by omega) (Int.le_refl _) (by rw [hb]; omega) (by omega)
  rw [hr, hs]
  simp
  rfl
theorem make_bools (n : Nat) (hn : n ≤ 131072) (w : World) :
    (Instr.makeSlice 38 (.int .i64 (n : Int)) (.int .i64 (n : Int))).run Tryd.prog w = .ok (.slice (some ⟨w.heap.size, 0, none⟩) n n) (w.alloc (.cells (madeCells #[.bool false] n) 4)) := by
  obtain ⟨i, hi, hz, hs, hb⟩ := info_parts info4
  have hr := run_make (P := Tryd.prog) w 38 4 i _ Tryd.underlying38 hi hz .i64 .i64 n n (by omega) (Int.le_refl _) (by rw [hb]; omega) (by omega)
  rw [hr, hs]
  simp
  rfl

theorem made_cell (w : World) (z : Value) (m : Nat) (t : TypeId) (j : Nat) (hj : j < m) : (w.alloc (.cells (madeCells #[z] m) t)).cell? ⟨w.heap.size, j, none⟩ = some z ∧ (w.alloc (.cells (madeCells #[z] m) t)).frozen? ⟨w.heap.size, j, none⟩ = false := by
  refine ⟨?_, by simp⟩
  rw [World.cell?_alloc_at (hn := rfl)]
  have e : (madeCells #[z] m)[j]? = (madeCells #[z] m).toList[j]? := by simp
  rw [e, toList_madeCells_one]
  simp [hj]

/-- what the first table holds at j when k of its cells are laid -/
def laidTo (k j : Nat) : ByteArray := if j < k then nrS else ⟨#[]⟩

/-- the two tables: the first holds f, the second g -/
structure TwoTabs (w : World) (n : Nat) (f : Nat → ByteArray) (g : Nat → Bool) (wr : World) : Prop where
  below : Below w.heap.size w wr
  size : w.heap.size + 2 ≤ wr.heap.size
  fin : ∀ j, j < n → wr.cell? ⟨w.heap.size, j, none⟩ = some (.string (f j)) ∧ wr.frozen? ⟨w.heap.size, j, none⟩ = false
  seen : ∀ j, j < n → wr.cell? ⟨w.heap.size + 1, j, none⟩ = some (.bool (g j)) ∧ wr.frozen? ⟨w.heap.size + 1, j, none⟩ = false

theorem twoTabs_start (w : World) (n : Nat) : TwoTabs w n (laidTo 0) (fun _ => false) ((w.alloc (.cells (madeCells #[.string ⟨#[]⟩] n) 9)).alloc (.cells (madeCells #[.bool false] n) 4)) where
  below := ((Below.refl _ _).alloc (Nat.le_refl _) _).alloc (by simp) _
  size := by simp
  fin := fun j hj => by
    rw [World.cell?_alloc_lt _ _ _ (by simp), World.frozen?_alloc_past _ _ _ (by simp)]
    have e : laidTo 0 j = ⟨#[]⟩ := by unfold laidTo; rw [if_neg (by omega)]
    rw [e]
    exact made_cell w _ _ _ j hj
  seen := fun j hj => by
    have := made_cell (w.alloc (.cells (madeCells #[.string ⟨#[]⟩] n) 9)) (.bool false) n 4 j hj
    simpa using this

section
variable {w wr : World} {n : Nat} {f : Nat → ByteArray} {g : Nat → Bool}

theorem cell_set_same {a : Addr} {u : Value} (v : Value) (h : wr.cell? a = some u) : (wr.setCell a v).cell? a = some v := World.cell?_setCell_same _ _ _ h
theorem cell_set_other (a b : Addr) (v : Value) (h : a ≠ b) : (wr.setCell a v).cell? b = wr.cell? b := World.cell?_setCell_other _ _ _ _ h

theorem TwoTabs.setFin (h : TwoTabs w n f g wr) {x : Nat} (hx : x < n) (s : ByteArray) {f' : Nat → ByteArray} (hf : ∀ j, f' j = if j = x then s else f j) : TwoTabs w n f' g (wr.setCell ⟨w.heap.size, x, none⟩ (.string s)) where
  below := h.below.setCell (Nat.le_refl _) _
  size := by simpa using h.size
  fin := fun j hj => by
    refine ⟨?_, by simpa using (h.fin j hj).2⟩
    rw [hf j]
    by_cases e : j = x
    · rw [if_pos e, e]; exact cell_set_same _ (h.fin x hx).1
    · rw [if_neg e, cell_set_other _ _ _ (by intro hh; have := congrArg Addr.off hh; simp only at this; omega)]; exact (h.fin j hj).1
  seen := fun j hj => by
    refine ⟨?_, by simpa using (h.seen j hj).2⟩
    rw [cell_set_other _ _ _ (by intro hh; have := congrArg Addr.block hh; simp only at this; omega)]
    exact (h.seen j hj).1

theorem TwoTabs.setSeen (h : TwoTabs w n f g wr) {x : Nat} (hx : x < n) {g' : Nat → Bool} (hg : ∀ j, g' j = if j = x then true else g j) : TwoTabs w n f g' (wr.setCell ⟨w.heap.size + 1, x, none⟩ (.bool true)) where
  below := h.below.setCell (by show w.heap.size ≤ w.heap.size + 1; omega) _
  size := by simpa using h.size
  fin := fun j hj => by
    refine ⟨?_, by simpa using (h.fin j hj).2⟩
    rw [cell_set_other _ _ _ (by intro hh; have := congrArg Addr.block hh; simp only at this; omega)]
    exact (h.fin j hj).1
  seen := fun j hj => by
    refine ⟨?_, by simpa using (h.seen j hj).2⟩
    rw [hg j]
    by_cases e : j = x
    · rw [if_pos e, e]; exact cell_set_same _ (h.seen x hx).1
    · rw [if_neg e, cell_set_other _ _ _ (by intro hh; have := congrArg Addr.off hh; simp only at this; omega)]; exact (h.seen j hj).1

theorem TwoTabs.same (h : TwoTabs w n f g wr) {f' : Nat → ByteArray} {g' : Nat → Bool} (hf : ∀ j, j < n → f' j = f j) (hg : ∀ j, j < n → g' j = g j) : TwoTabs w n f' g' wr where
  below := h.below
  size := h.size
  fin := fun j hj => by rw [hf j hj]; exact h.fin j hj
  seen := fun j hj => by rw [hg j hj]; exact h.seen j hj

theorem laidTo_step (k j : Nat) : laidTo (k + 1) j = if j = k then nrS else laidTo k j := by
  unfold laidTo
  by_cases e : j = k
  · rw [if_pos e, if_pos (by omega)]
  · rw [if_neg e]
    by_cases h : j < k
    · rw [if_pos h, if_pos (by omega)]
    · rw [if_neg h, if_neg (by omega)]
theorem laidTo_all (n j : Nat) (h : j < n) (L : List Nat) (ac : Nat → ByteArray) : lastA L ac 0 j = laidTo n j := by
  unfold laidTo; rw [if_pos h]; rfl
end

/-- the marks: a table of its own -/
structure Marks (w : World) (n : Nat) (g : Nat → Bool) (wr : World) : Prop where
  below : Below w.heap.size w wr
  mark : ∀ j, j < n → wr.cell? ⟨w.heap.size, j, none⟩ = some (.bool (g j)) ∧ wr.frozen? ⟨w.heap.size, j, none⟩ = false

theorem marks_start (w : World) (n : Nat) (F : List Nat) : Marks w n (fun j => inL (F.take 0) j) (w.alloc (.cells (madeCells #[.bool false] n) 4)) where
  below := (Below.refl _ _).alloc (Nat.le_refl _) _
  mark := fun j hj => by simpa [inL] using made_cell w (.bool false) n 4 j hj

theorem Marks.set {w wr : World} {n : Nat} {g g' : Nat → Bool} (h : Marks w n g wr) {x : Nat} (hx : x < n) (hg : ∀ j, g' j = if j = x then true else g j) : Marks w n g' (wr.setCell ⟨w.heap.size, x, none⟩ (.bool true)) where
  below := h.below.setCell (Nat.le_refl _) _
  mark := fun j hj => by
    refine ⟨?_, by simpa using (h.mark j hj).2⟩
    rw [hg j]
    by_cases e : j = x
    · rw [if_pos e, e]; exact cell_set_same _ (h.mark x hx).1
    · rw [if_neg e, cell_set_other _ _ _ (by intro hh; have := congrArg Addr.off hh; simp only at this; omega)]; exact (h.mark j hj).1

theorem inL_step' (l : List Nat) (k j : Nat) (h : k < l.length) : inL (l.take (k + 1)) j = if j = l[k] then true else inL (l.take k) j := by
  rw [inL_step l k j h]
  by_cases e : j = l[k]
  · rw [if_pos e, decide_eq_true e, Bool.or_true]
  · rw [if_neg e, decide_eq_false e, Bool.or_false]
end Go.Proofs.Qxb6615011aDoor
