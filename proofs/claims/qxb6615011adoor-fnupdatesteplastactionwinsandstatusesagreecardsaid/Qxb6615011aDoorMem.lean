/- Laws on rows of structs, in the form in which an arm of the walk fits them or fails at once; plain facts on ranges of cells. -/
import Derived.WalkKit
import Derived.WalkSpells
import Derived.Deep.MidRow
namespace Go.Proofs.Qxb6615011aDoor
open Go.RowKit
set_option linter.unusedVariables false
variable {P : Program}

/-- a whole struct read out of the middle of a block -/
theorem load_mid {ops : Array Oper} {rest : List Oper} {a : Act} {w : World} {Q : Exit → Act → World → Prop} {d : Option Nat} {x : Operand} {tt : TypeId} {p : String} {af : Array Edge} (ty : TypeId)
    (b o : Nat) (cs : List Value) {de : TypeDesc} (hu : P.underlying ty = some de) (hd : de.isRow = true) (hi : (P.info? ty).map (·.size) = some cs.length) (hc : w.rangeAt b o cs)
    (hx : a.eval x = .pointer (some ⟨b, o, none⟩))
    (h : wpList P ops Q rest (a.put d (.agg cs.toArray)) w) : wpList P ops Q ({ dst := d, op := .load ty x, type := tt, pos := p, after := af, guard := none } :: rest) a w :=
  wpList_load_mid rfl ty x rfl b o hx cs de hc hu hd hi h

/-- a whole struct laid into the middle of a block -/
theorem store_mid {ops : Array Oper} {rest : List Oper} {a : Act} {w : World} {Q : Exit → Act → World → Prop} {d : Option Nat} {x y : Operand} {tt : TypeId} {p : String} {af : Array Edge} (ty : TypeId)
    (b o : Nat) (cs : List Value) (hi : (P.info? ty).map (·.size) = some cs.length) (h1 : ∀ v ∈ cs, v.oneCell' = true) (ht : w.there b o cs.length)
    (hx : a.eval x = .pointer (some ⟨b, o, none⟩)) (hy : a.eval y = .agg cs.toArray)
    (h : wpList P ops Q rest (a.put d undef) (w.setCells b o cs)) : wpList P ops Q ({ dst := d, op := .store ty x y, type := tt, pos := p, after := af, guard := none } :: rest) a w :=
  wpList_store_mid rfl ty x y rfl b o cs.toArray hx hy (by simpa using ht) (by simpa using hi) (all_oneCell_toArray h1) (by simpa using h)

theorem rangeAt_new (w : World) (cs : List Value) (t : TypeId) : (w.alloc (.cells cs.toArray t)).rangeAt w.heap.size 0 cs := fun j v hv => by
  rw [World.cell?_alloc_at (hn := rfl)]
  simpa using hv
theorem there_made (w : World) (z : Array Value) (m : Nat) (t : TypeId) : (w.alloc (.cells (madeCells z m) t)).there w.heap.size 0 m := fun j hj => by
  rw [World.cell?_alloc_at (hn := rfl)]
  refine ⟨?_, by simp⟩
  simp [madeCells, hj]
theorem there_part {w : World} {b n : Nat} (h : w.there b 0 n) {o m : Nat} (hom : o + m ≤ n) : w.there b o m := fun j hj => by
  have := h (o + j) (by omega)
  simpa using this

theorem below_setCells {B b : Nat} {w0 : World} (hb : B ≤ b) : ∀ (vs : List Value) (o : Nat) (w : World), Below B w0 w → Below B w0 (w.setCells b o vs)
  | [], _, _, h => h
  | v :: r, o, w, h => by
    rw [World.setCells]
    exact below_setCells hb r (o + 1) _ (h.setCell (by exact hb) v)

theorem size_setCells (b : Nat) : ∀ (vs : List Value) (o : Nat) (w : World), (w.setCells b o vs).heap.size = w.heap.size
  | [], _, _ => rfl
  | v :: r, o, w => by
    rw [World.setCells, size_setCells b r (o + 1)]
    simp

/-- what lies below stays -/
theorem rangeAt_below {B b o : Nat} {w w' : World} {cs : List Value} (h : w.rangeAt b o cs) (hb : Below B w w') (hB : b < B) : w'.rangeAt b o cs := fun j v hv =>
  (hb.cell (p := ⟨b, o + j, none⟩) hB).trans (h j v hv)
theorem there_below {B b o n : Nat} {w w' : World} (h : w.there b o n) (hb : Below B w w') (hB : b < B) : w'.there b o n := fun j hj =>
  ⟨by rw [hb.cell (p := ⟨b, o + j, none⟩) hB]; exact (h j hj).1, by rw [hb.frozen (p := ⟨b, o + j, none⟩) hB]; exact (h j hj).2⟩
end Go.Proofs.Qxb6615011aDoor
