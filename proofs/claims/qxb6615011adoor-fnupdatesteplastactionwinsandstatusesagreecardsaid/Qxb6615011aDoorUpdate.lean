/- The contracts of the closure in 'updateStep', of 'update', 'updateStep', 'ZZupdateStepCount'. -/
import Derived.Test.Qxb6615011aDoorNote
import Derived.RegionTactic
import Derived.ChangeAlike
import Derived.BigRegion
import Derived.Deep.RegionHeld3
namespace Go.Proofs.Qxb6615011aDoor
open Go.ChangeShapes Go.WideShapes Go.ChangeAt Go.RowKit Go.MuLone
set_option linter.unusedVariables false

theorem three_new (w : World) (c0 c1 c2 : Value) (t0 t1 t2 : TypeId) :
    (((w.alloc (.cells #[c0] t0)).alloc (.cells #[c1] t1)).alloc (.cells #[c2] t2)).cell? ⟨w.heap.size, 0, none⟩ = some c0 ∧
    (((w.alloc (.cells #[c0] t0)).alloc (.cells #[c1] t1)).alloc (.cells #[c2] t2)).cell? ⟨w.heap.size + 1, 0, none⟩ = some c1 ∧
    (((w.alloc (.cells #[c0] t0)).alloc (.cells #[c1] t1)).alloc (.cells #[c2] t2)).cell? ⟨w.heap.size + 1 + 1, 0, none⟩ = some c2 := by
  refine ⟨?_, ?_, ?_⟩
  · rw [World.cell?_alloc_lt _ _ _ (by simp; omega), World.cell?_alloc_lt _ _ _ (by simp), World.cell?_alloc_at (hn := rfl)]; rfl
  · rw [World.cell?_alloc_lt _ _ _ (by simp), World.cell?_alloc_at (hn := by simp)]; rfl
  · rw [World.cell?_alloc_at (hn := by simp)]; rfl

section
variable {B B2 S D T R n : Nat} {nm : Nat → ByteArray} {row : Nat → List Value} {lk : Int} {chg : Value} {ch : List Nat}

/-- the step's row, its action set -/
def actTo (row : Nat → List Value) (j : Nat) (a : ByteArray) : Nat → List Value := fun i => if i = j then (row j).set 1 (.string a) else row i

set_option maxHeartbeats 400000 in
theorem inner16 (w : World) (h : Upd B B2 w S D T R n nm row lk chg ch) (j : Nat) (a x : ByteArray) (hjn : j < n) (hn : n ≤ 65536) (hl : ch.length ≤ 65536) (hb : ∀ x ∈ ch, x ≤ 65536)
    (ha : (row j)[1]? = some (.string x)) (ba bc bs bi : Nat) (la : B2 ≤ ba) (lc : B2 ≤ bc) (ls : B2 ≤ bs) (li : B2 ≤ bi) (ca : w.cell? ⟨ba, 0, none⟩ = some (.string a))
    (cc : w.cell? ⟨bc, 0, none⟩ = some (.func (Fn.func 21) #[] #[.pointer (some ⟨ba, 0, none⟩)])) (cs : w.cell? ⟨bs, 0, none⟩ = some (.pointer (some ⟨S, 0, none⟩))) (ci : w.cell? ⟨bi, 0, none⟩ = some (.int .i64 j)) :
    Calls Tryd.prog 25 #[.pointer (some ⟨bc, 0, none⟩), .pointer (some ⟨bs, 0, none⟩), .pointer (some ⟨bi, 0, none⟩)] w
      fun e w' => e = .returned (.tuple #[]) ∧ (∃ chg', Upd B B2 w' S D T R n nm (actTo row j a) lk chg' (noted ch j)) ∧ Below B w w' := by
  have h18 : w.cell? ⟨S, 18, none⟩ = some (.slice (some ⟨T, 0, none⟩) n n) := by simpa using h.cells 18 _ rfl
  have hq : w.cell? ⟨T, j * 5 + 1, none⟩ = some (.string x) := h.steps j hjn 1 _ ha
  have hz : w.frozen? ⟨T, j * 5 + 1, none⟩ = false := by simpa using (h.room (j * 5 + 1) (by omega)).2
  have hjn' : (j : Int) < (n : Int) := by omega
  have hU := h.step hjn (c := 1) (by omega) (.string a)
  have hbU : Below B w (w.setCell ⟨T, j * 5 + 1, none⟩ (.string a)) := (Below.refl _ _).setCell (by exact h.bT) _
  have e1 : (w.setCell ⟨T, j * 5 + 1, none⟩ (.string a)).cell? ⟨bs, 0, none⟩ = some (.pointer (some ⟨S, 0, none⟩)) := by rw [World.cell?_setCell_other _ _ _ _ (by intro hh; have h2 := congrArg Addr.block hh; have := h.lT; simp only at h2; omega)]; exact cs
  have e2 : (w.setCell ⟨T, j * 5 + 1, none⟩ (.string a)).cell? ⟨bi, 0, none⟩ = some (.int .i64 j) := by rw [World.cell?_setCell_other _ _ _ _ (by intro hh; have h2 := congrArg Addr.block hh; have := h.lT; simp only at h2; omega)]; exact ci
  have e0 : (w.setCell ⟨T, j * 5 + 1, none⟩ (.string a)).cell? ⟨bc, 0, none⟩ = some (.func (Fn.func 21) #[] #[.pointer (some ⟨ba, 0, none⟩)]) := by rw [World.cell?_setCell_other _ _ _ _ (by intro hh; have h2 := congrArg Addr.block hh; have := h.lT; simp only at h2; omega)]; exact cc
  have e3 : (w.setCell ⟨T, j * 5 + 1, none⟩ (.string a)).cell? ⟨S, 18, none⟩ = some (.slice (some ⟨T, 0, none⟩) n n) := by simpa using hU.cells 18 _ rfl
  have hnote := note17 ((w.setCell ⟨T, j * 5 + 1, none⟩ (.string a)).drew) (hU.below (Below.refl _ _).drew) j hl (by omega) hb
  clear h
  go_enter Tryd.func25, Tryd.ntmps25
  go_wp2_with fail
  go_region_held3 (fun w' => w'.cell? ⟨bc, 0, none⟩ = some (.func (Fn.func 21) #[] #[.pointer (some ⟨ba, 0, none⟩)]) ∧ w'.cell? ⟨bs, 0, none⟩ = some (.pointer (some ⟨S, 0, none⟩)) ∧ w'.cell? ⟨bi, 0, none⟩ = some (.int .i64 j) ∧ w'.cell? ⟨S, 18, none⟩ = some (.slice (some ⟨T, 0, none⟩) n n)) (go_keep)
    ((go_at_call 21; refine (act21 T (j * 5) ba a x _ ?_ ?_ ?_).mono ?_; exact hq; exact hz; exact ca; rintro e w' ⟨rfl, rfl⟩))
  go_wp2_with fail
  refine hnote.mono ?_
  clear hnote
  rintro e w2 ⟨rfl, hU2, hB2⟩
  go_wp2_with fail
  go_end0
  exact ⟨rfl, hU2, (hbU.drew).trans hB2⟩

/-- what an update of a step's attempts leaves -/
def UpdPost (B B2 : Nat) (w : World) (S D T R n : Nat) (nm : Nat → ByteArray) (row : Nat → List Value) (ch : List Nat) (j : Nat) (a : ByteArray) (e : Ending) (w' : World) : Prop :=
  e = .returned (.tuple #[]) ∧ (∃ chg', Upd B B2 w' S D T R n nm (actTo row j a) 0 chg' (noted ch j)) ∧ Below B w w'

set_option maxHeartbeats 400000 in
theorem update15 (w : World) (h : Upd B B2 w S D T R n nm row 0 chg ch) (j : Nat) (a x : ByteArray) (hjn : j < n) (hn : n ≤ 65536) (hl : ch.length ≤ 65536) (hb : ∀ x ∈ ch, x ≤ 65536)
    (ha : (row j)[1]? = some (.string x)) (ba bc bs bi : Nat) (la : B2 ≤ ba) (lc : B2 ≤ bc) (ls : B2 ≤ bs) (li : B2 ≤ bi) (ca : w.cell? ⟨ba, 0, none⟩ = some (.string a))
    (cc : w.cell? ⟨bc, 0, none⟩ = some (.func (Fn.func 21) #[] #[.pointer (some ⟨ba, 0, none⟩)])) (cs : w.cell? ⟨bs, 0, none⟩ = some (.pointer (some ⟨S, 0, none⟩))) (ci : w.cell? ⟨bi, 0, none⟩ = some (.int .i64 j)) :
    Calls Tryd.prog 24 #[.pointer (some ⟨S, 0, none⟩), .func (Fn.func 25) #[] #[.pointer (some ⟨bc, 0, none⟩), .pointer (some ⟨bs, 0, none⟩), .pointer (some ⟨bi, 0, none⟩)]] w (UpdPost B B2 w S D T R n nm row ch j a) := by
  have hk : w.cell? ⟨S, 13, none⟩ = some (.int .i32 0) := by simpa using h.cells 13 _ rfl
  have hz : w.frozen? ⟨S, 13, none⟩ = false := by simpa using (h.free 13 (by omega)).2
  have hne : ∀ k, B2 ≤ k → ∀ u, (w.setCell ⟨S, 13, none⟩ u).cell? ⟨k, 0, none⟩ = w.cell? ⟨k, 0, none⟩ := fun k hk u =>
    World.cell?_setCell_other _ _ _ _ (by intro hh; have h2 := congrArg Addr.block hh; have := h.lS; simp only at h2; omega)
  have hin := inner16 _ (h.lock 1) j a x hjn hn hl hb ha ba bc bs bi la lc ls li (by rw [hne ba la]; exact ca) (by rw [hne bc lc]; exact cc) (by rw [hne bs ls]; exact cs) (by rw [hne bi li]; exact ci)
  have hbL : Below B w (w.setCell ⟨S, 13, none⟩ (.int .i32 1)) := (Below.refl _ _).setCell (by exact h.bS) _
  have hbS := h.bS
  clear h hne cc cs ci ca
  go_enter_defers Tryd.func24, Tryd.ntmps24
  go_wp2_with (go_at_call 28; refine (lock_free muLib ⟨S, 13, none⟩ _ hk hz).mono ?_; rintro e w' ⟨rfl, rfl⟩)
  refine hin.mono ?_
  clear hin
  rintro e w2 ⟨rfl, ⟨chg', hU⟩, hB⟩
  go_wp2_with fail
  refine leaves_cons (f := 29) (args := #[.pointer (some ⟨S, 13, none⟩)]) (by simp) (by simp [go_sem]) ?_
  refine (unlock_deferred muLib ⟨S, 13, none⟩ .returning _ ?_ ?_).mono ?_
  · simpa using hU.cells 13 _ rfl
  · simpa using (hU.free 13 (by omega)).2
  rintro e u' w'' ⟨rfl, rfl, rfl⟩
  exact ⟨_, results_none rfl _ _ _, rfl, ⟨_, hU.lock 0⟩, (hbL.trans hB).setCell (by exact hbS) _⟩

set_option maxHeartbeats 400000 in
theorem updateStep13 (w : World) (h : Upd B B2 w S D T R n nm row 0 chg ch) (j : Nat) (a x : ByteArray) (hjn : j < n) (hn : n ≤ 65536) (hl : ch.length ≤ 65536) (hb : ∀ x ∈ ch, x ≤ 65536)
    (ha : (row j)[1]? = some (.string x)) (ba : Nat) (la : B2 ≤ ba) (ca : w.cell? ⟨ba, 0, none⟩ = some (.string a)) :
    Calls Tryd.prog 20 #[.pointer (some ⟨S, 0, none⟩), .int .i64 j, .func (Fn.func 21) #[] #[.pointer (some ⟨ba, 0, none⟩)]] w (UpdPost B B2 w S D T R n nm row ch j a) := by
  have hmf : ∀ (fn : Fn) (first cap : Array Value) (w : World), (Instr.makeFunc fn first cap).run Tryd.prog w = .ok (.func fn first cap) w := fun _ _ _ _ => rfl
  have hlB := h.lB
  have hbS := h.bS
  have hlS := h.lS
  have hW : Below w.heap.size w (((w.alloc (.cells #[.pointer (some ⟨S, 0, none⟩)] 25)).alloc (.cells #[.int .i64 j] 3)).alloc (.cells #[.func (Fn.func 21) #[] #[.pointer (some ⟨ba, 0, none⟩)]] 73)) :=
    (((Below.refl _ _).alloc (Nat.le_refl _) _).alloc (by simp) _).alloc (by simp; omega) _
  have hup := update15 _ (h.below hW) j a x hjn hn hl hb ha ba (w.heap.size + 1 + 1) w.heap.size (w.heap.size + 1) la (by omega) (by omega) (by omega) ((hW.cell (p := ⟨ba, 0, none⟩) (World.block_lt_of_cell? w _ ca)).trans ca) (three_new w _ _ _ _ _ _).2.2 (three_new w _ _ _ _ _ _).1 (three_new w _ _ _ _ _ _).2.1
  clear h
  go_enter Tryd.func20, Tryd.ntmps20
  go_wp2_with fail
  refine hup.mono ?_
  clear hup
  rintro e w2 ⟨rfl, hU, hB⟩
  go_wp2_with fail
  go_end0
  exact ⟨rfl, hU, (hW.mono (by omega)).trans hB⟩

set_option maxHeartbeats 400000 in
theorem action12 (w : World) (h : Upd B B2 w S D T R n nm row 0 chg ch) (j : Nat) (a x : ByteArray) (hjn : j < n) (hn : n ≤ 65536) (hl : ch.length ≤ 65536) (hb : ∀ x ∈ ch, x ≤ 65536)
    (ha : (row j)[1]? = some (.string x)) :
    Calls Tryd.prog 12 #[.pointer (some ⟨S, 0, none⟩), .int .i64 j, .string a] w (UpdPost B B2 w S D T R n nm row ch j a) := by
  have hmf : ∀ (fn : Fn) (first cap : Array Value) (w : World), (Instr.makeFunc fn first cap).run Tryd.prog w = .ok (.func fn first cap) w := fun _ _ _ _ => rfl
  have hW : Below w.heap.size w (w.alloc (.cells #[.string a] 29)) := (Below.refl _ _).alloc (Nat.le_refl _) _
  have hB2 := h.lB
  have hBS := h.bS
  have hSB := h.lS
  have hup := updateStep13 _ (h.below hW) j a x hjn hn hl hb ha w.heap.size hB2 (by rw [World.cell?_alloc_at (hn := rfl)]; rfl)
  clear h
  go_enter Tryd.func12, Tryd.ntmps12
  go_wp2_with fail
  refine hup.mono ?_
  clear hup
  rintro e w2 ⟨rfl, hU, hB⟩
  go_wp2_with fail
  go_end0
  exact ⟨rfl, hU, (hW.mono (by omega)).trans hB⟩
end
end Go.Proofs.Qxb6615011aDoor
