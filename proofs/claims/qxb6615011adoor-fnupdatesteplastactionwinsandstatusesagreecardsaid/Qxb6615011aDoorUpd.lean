/- A saga under update: its lock, its steps, the indices noted; and what each store does to it. -/
import Derived.Test.Qxb6615011aDoorSaga
import Derived.Test.Qxb6615011aDoorInts
namespace Go.Proofs.Qxb6615011aDoor
open Go.ChangeShapes Go.WideShapes Go.ChangeAt Go.RowKit
set_option linter.unusedVariables false

/-- a saga's 22 cells, its lock's word lk -/
def sagaRowL (D T n R : Nat) (lk : Int) (chg : Value) : List Value := [.string ⟨#[116, 120, 45, 49]⟩, .string ⟨#[]⟩, .string ⟨#[116, 120, 45, 49]⟩, .int .i64 0, .slice (some ⟨D, 0, none⟩) n n, .slice none 0 0, .string ⟨#[]⟩, .string ⟨#[]⟩, .string ⟨#[]⟩, .string ⟨#[]⟩,
  .int .u64 0, .int .i64 0, .pointer none, .int .i32 lk, .int .u32 0, .string ⟨#[82, 85, 78, 78, 73, 78, 71]⟩, .string ⟨#[]⟩, .int .i64 0, .slice (some ⟨T, 0, none⟩) n n, chg, .pointer (some ⟨R, 0, none⟩), .nilFunc]

theorem rangeAt_setCell {w : World} {b o : Nat} {cs : List Value} {i : Nat} (v : Value) (h : w.rangeAt b o cs) (hi : i < cs.length) : (w.setCell ⟨b, o + i, none⟩ v).rangeAt b o (cs.set i v) := fun j u hu => by
  by_cases e : j = i
  · subst e
    rw [List.getElem?_set_self hi] at hu
    cases hu
    exact World.cell?_setCell_same _ _ _ (h j _ (List.getElem?_eq_getElem hi))
  · rw [List.getElem?_set_ne (by omega)] at hu
    rw [World.cell?_setCell_other _ _ _ _ (by intro hh; have h2 := congrArg Addr.off hh; simp only at h2; omega)]
    exact h j u hu

theorem rangeAt_setCell_apart {w : World} {b o b' o' : Nat} {cs : List Value} (v : Value) (h : w.rangeAt b o cs) (hap : b ≠ b' ∨ o' < o ∨ o + cs.length ≤ o') : (w.setCell ⟨b', o', none⟩ v).rangeAt b o cs := fun j u hu => by
  have hj : j < cs.length := (List.getElem?_eq_some_iff.1 hu).1
  rw [World.cell?_setCell_other _ _ _ _ (by simp; omega)]
  exact h j u hu

theorem there_setCell {w : World} {b o n : Nat} (a : Addr) (v : Value) (h : w.there b o n) : (w.setCell a v).there b o n := fun j hj => by
  obtain ⟨h1, h2⟩ := h j hj
  refine ⟨?_, by simpa using h2⟩
  obtain ⟨u, hu⟩ := Option.isSome_iff_exists.1 h1
  by_cases e : a = ⟨b, o + j, none⟩
  · rw [← e] at hu ⊢; rw [World.cell?_setCell_same _ _ _ hu]; rfl
  · rw [World.cell?_setCell_other _ _ _ _ e, hu]; rfl

theorem ownsRow_blocks {w w' : World} {base : Nat} {e : TypeId} {size : Nat} {v : Value} {n : Nat} {xs : List Value} (h : w.ownsRow base e size v n xs)
    (hb : ∀ k, base ≤ k → k < w.heap.size → w'.heap[k]? = w.heap[k]?) : w'.ownsRow base e size v n xs := by
  refine ⟨h.1, ?_⟩
  rcases h.2 with h0 | ⟨g, cap, cur, h1, h2, h3, h4⟩
  · exact .inl h0
  · exact .inr ⟨g, cap, cur, h1, h2, by rw [hb g h2 (Array.getElem?_eq_some_iff.1 h3).1]; exact h3, h4⟩

/-- a saga under update lies in the world w at S; its own blocks from B on and below B2; the row of noted indices from B2 on -/
structure Upd (B B2 : Nat) (w : World) (S D T R n : Nat) (nm : Nat → ByteArray) (row : Nat → List Value) (lk : Int) (chg : Value) (ch : List Nat) : Prop where
  cells : w.rangeAt S 0 (sagaRowL D T n R lk chg)
  free : w.there S 0 22
  defs : ∀ j, j < n → w.rangeAt D (j * 7) (defRow (nm j))
  steps : ∀ j, j < n → w.rangeAt T (j * 5) (row j)
  five : ∀ j, j < n → (row j).length = 5
  room : w.there T 0 (n * 5)
  bS : B ≤ S
  bD : B ≤ D
  bT : B ≤ T
  apart : T ≠ S
  dS : D ≠ S
  dT : D ≠ T
  lS : S < B2
  lD : D < B2
  lT : T < B2
  lB : B2 ≤ w.heap.size
  own : w.ownsRow B2 3 1 chg ch.length (intCells ch)

theorem Upd.of {B S D T R n : Nat} {w : World} {nm : Nat → ByteArray} {row : Nat → List Value} (h : SagaIn B w S D T R n nm row (.slice none 0 0)) (h5 : ∀ j, j < n → (row j).length = 5) :
    Upd B w.heap.size w S D T R n nm row 0 (.slice none 0 0) [] where
  cells := h.cells
  free := h.free
  defs := h.defs
  steps := h.steps
  five := h5
  room := h.room
  bS := h.bS
  bD := h.bD
  bT := h.bT
  apart := h.apart
  dS := h.dS
  dT := h.dT
  lS := h.lS
  lD := h.lD
  lT := h.lT
  lB := Nat.le_refl _
  own := World.ownsRow_nil _ _ _ _

section
variable {B B2 S D T R n : Nat} {w w' : World} {nm : Nat → ByteArray} {row : Nat → List Value} {lk : Int} {chg : Value} {ch : List Nat}

theorem Upd.below (h : Upd B B2 w S D T R n nm row lk chg ch) (hb : Below w.heap.size w w') : Upd B B2 w' S D T R n nm row lk chg ch where
  cells := rangeAt_below h.cells hb (Nat.lt_of_lt_of_le h.lS h.lB)
  free := there_below h.free hb (Nat.lt_of_lt_of_le h.lS h.lB)
  defs := fun j hj => rangeAt_below (h.defs j hj) hb (Nat.lt_of_lt_of_le h.lD h.lB)
  steps := fun j hj => rangeAt_below (h.steps j hj) hb (Nat.lt_of_lt_of_le h.lT h.lB)
  five := h.five
  room := there_below h.room hb (Nat.lt_of_lt_of_le h.lT h.lB)
  bS := h.bS
  bD := h.bD
  bT := h.bT
  apart := h.apart
  dS := h.dS
  dT := h.dT
  lS := h.lS
  lD := h.lD
  lT := h.lT
  lB := Nat.le_trans h.lB hb.size
  own := ownsRow_blocks h.own (fun k _ hk => hb.block k hk)

theorem heap_setCell_ne (w : World) (a : Addr) (v : Value) (k : Nat) (h : k ≠ a.block) : (w.setCell a v).heap[k]? = w.heap[k]? := Below.heap_setCell w a v k h

/-- the lock's word is written -/
theorem Upd.lock (h : Upd B B2 w S D T R n nm row lk chg ch) (l' : Int) : Upd B B2 (w.setCell ⟨S, 13, none⟩ (.int .i32 l')) S D T R n nm row l' chg ch where
  cells := by
    have := rangeAt_setCell (i := 13) (.int .i32 l') h.cells (by simp [sagaRowL])
    simpa [sagaRowL] using this
  free := there_setCell _ _ h.free
  defs := fun j hj => rangeAt_setCell_apart _ (h.defs j hj) (.inl h.dS)
  steps := fun j hj => rangeAt_setCell_apart _ (h.steps j hj) (.inl h.apart)
  five := h.five
  room := there_setCell _ _ h.room
  bS := h.bS
  bD := h.bD
  bT := h.bT
  apart := h.apart
  dS := h.dS
  dT := h.dT
  lS := h.lS
  lD := h.lD
  lT := h.lT
  lB := by simpa using h.lB
  own := ownsRow_blocks h.own (fun k hk _ => heap_setCell_ne _ _ _ _ (by have := h.lS; show k ≠ S; omega))

/-- one cell of a step is written -/
theorem Upd.step (h : Upd B B2 w S D T R n nm row lk chg ch) {j c : Nat} (hj : j < n) (hc : c < 5) (v : Value) :
    Upd B B2 (w.setCell ⟨T, j * 5 + c, none⟩ v) S D T R n nm (fun i => if i = j then (row j).set c v else row i) lk chg ch where
  cells := rangeAt_setCell_apart _ h.cells (.inl (Ne.symm h.apart))
  free := there_setCell _ _ h.free
  defs := fun i hi => rangeAt_setCell_apart _ (h.defs i hi) (.inl h.dT)
  steps := fun i hi => by
    by_cases e : i = j
    · subst e
      rw [if_pos rfl]
      exact rangeAt_setCell _ (h.steps i hi) (by rw [h.five i hi]; exact hc)
    · rw [if_neg e]
      refine rangeAt_setCell_apart _ (h.steps i hi) (.inr ?_)
      rw [h.five i hi]
      omega
  five := fun i hi => by
    by_cases e : i = j
    · subst e; rw [if_pos rfl]; simpa using h.five i hi
    · rw [if_neg e]; exact h.five i hi
  room := there_setCell _ _ h.room
  bS := h.bS
  bD := h.bD
  bT := h.bT
  apart := h.apart
  dS := h.dS
  dT := h.dT
  lS := h.lS
  lD := h.lD
  lT := h.lT
  lB := by simpa using h.lB
  own := ownsRow_blocks h.own (fun k hk _ => heap_setCell_ne _ _ _ _ (by have := h.lT; show k ≠ T; omega))

theorem Upd.grownBelow (h : Upd B B2 w S D T R n nm row lk chg ch) (hg : w.grownBy w' chg.ownBlock) : Below B2 w w' := by
  have hne : ∀ k, k < B2 → some k ≠ chg.ownBlock := by
    intro k hk e
    rcases h.own.2 with ⟨h0, _⟩ | ⟨g, cap, cur, h1, h2, _⟩
    · rw [h0] at e; simp [Value.ownBlock] at e
    · rw [h1] at e; simp [Value.ownBlock] at e; omega
  exact ⟨hg.os, hg.tape, hg.output, hg.size, fun k hk => hg.block k (Nat.lt_of_lt_of_le hk h.lB) (hne k hk)⟩

/-- what an append to the row of noted indices leaves -/
theorem Upd.grown (h : Upd B B2 w S D T R n nm row lk chg ch) (hg : w.grownBy w' chg.ownBlock) {v' : Value} {ch' : List Nat} (hown : w'.ownsRow B2 3 1 v' ch'.length (intCells ch')) :
    Upd B B2 (w'.setCell ⟨S, 19, none⟩ v') S D T R n nm row lk v' ch' := by
  have hb : Below B2 w w' := h.grownBelow hg
  have hcells := rangeAt_setCell (i := 19) v' (rangeAt_below h.cells hb h.lS) (by simp [sagaRowL])
  exact {
    cells := by simpa [sagaRowL] using hcells
    free := there_setCell _ _ (there_below h.free hb h.lS)
    defs := fun j hj => rangeAt_setCell_apart _ (rangeAt_below (h.defs j hj) hb h.lD) (.inl h.dS)
    steps := fun j hj => rangeAt_setCell_apart _ (rangeAt_below (h.steps j hj) hb h.lT) (.inl h.apart)
    five := h.five
    room := there_setCell _ _ (there_below h.room hb h.lT)
    bS := h.bS
    bD := h.bD
    bT := h.bT
    apart := h.apart
    dS := h.dS
    dT := h.dT
    lS := h.lS
    lD := h.lD
    lT := h.lT
    lB := by have := hg.size; have := h.lB; simp; omega
    own := ownsRow_blocks hown (fun k hk _ => heap_setCell_ne _ _ _ _ (by have := h.lS; show k ≠ S; omega)) }
end
end Go.Proofs.Qxb6615011aDoor
