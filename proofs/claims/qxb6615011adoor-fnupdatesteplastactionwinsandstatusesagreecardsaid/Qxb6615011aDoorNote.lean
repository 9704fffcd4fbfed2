/- The contracts of 'note', of the closures, of 'update', 'updateStep', 'ZZupdateStepCount'. -/
import Derived.Test.Qxb6615011aDoorUpd
import Derived.Test.Qxb6615011aDoorLocks
import Derived.Defers
namespace Go.Proofs.Qxb6615011aDoor
open Go.ChangeShapes Go.WideShapes Go.ChangeAt Go.RowKit Go.MuLone
set_option linter.unusedVariables false

/-- the indices noted, one more -/
def noted (l : List Nat) (j : Nat) : List Nat := if inL l j = true then l else l ++ [j]

theorem info3 : (Tryd.prog.info? 3).map (fun i => (i.zero, i.size, i.bytes)) = some (some (.int .i64 0), 1, 8) := by kernel_rfl

section
variable {B B2 S D T R n : Nat} {nm : Nat → ByteArray} {row : Nat → List Value} {lk : Int} {chg : Value} {ch : List Nat}

set_option maxHeartbeats 400000 in
theorem note17_old (w : World) (h : Upd B B2 w S D T R n nm row lk chg ch) (j : Nat) (hl : ch.length ≤ 65536) (hj : j ≤ 65536) (hb : ∀ x ∈ ch, x ≤ 65536) (hin : inL ch j = true) :
    Calls Tryd.prog 26 #[.pointer (some ⟨S, 0, none⟩), .int .i64 j] w fun e w' => e = .returned (.tuple #[]) ∧ w' = w := by
  have h19 : w.cell? ⟨S, 19, none⟩ = some chg := by simpa using h.cells 19 _ rfl
  have hcon := contains20 B2 chg ch j w (by omega) (by omega) (fun x hx => by have := hb x hx; omega) h.own
  rw [hin] at hcon
  clear h hb
  go_enter Tryd.func26, Tryd.ntmps26
  go_wp2_with fail
  refine hcon.mono ?_
  rintro e w' ⟨rfl, rfl⟩
  clear hcon
  go_wp2_with fail
  go_end0
  exact ⟨rfl, rfl⟩

set_option maxHeartbeats 400000 in
theorem note17_new (w : World) (h : Upd B B2 w S D T R n nm row lk chg ch) (j : Nat) (hl : ch.length ≤ 65536) (hj : j ≤ 65536) (hb : ∀ x ∈ ch, x ≤ 65536) (hin : inL ch j = false) :
    Calls Tryd.prog 26 #[.pointer (some ⟨S, 0, none⟩), .int .i64 j] w fun e w' => e = .returned (.tuple #[]) ∧ (∃ chg', Upd B B2 w' S D T R n nm row lk chg' (ch ++ [j])) ∧ Below B w w' := by
  have h19 : w.cell? ⟨S, 19, none⟩ = some chg := by simpa using h.cells 19 _ rfl
  have hcon := contains20 B2 chg ch j w (by omega) (by omega) (fun x hx => by have := hb x hx; omega) h.own
  rw [hin] at hcon
  obtain ⟨i0, hi, hz0, hz1, hz2⟩ := info_parts info3
  clear hb
  go_enter Tryd.func26, Tryd.ntmps26
  go_wp2_with fail
  refine hcon.mono ?_
  rintro e w' ⟨rfl, rfl⟩
  clear hcon
  go_wp2_with (at_builtin; refine wpList_append_own _ rfl (.tmp 15) (.tmp 17) 35 rfl B2 3 i0 (.int .i64 0) 1 8 Tryd.underlying35 hi hz0 hz1 hz2 rfl (by decide) chg ch.length (intCells ch) rfl (h.own.alloc _) ⟨w'.heap.size, 0, none⟩ 1 1 [.int .i64 j] rfl rfl ?c1 ?c2 ?c3 ?c4 ?c5 ?_)
  case c1 =>
    intro i u hu
    match i, hu with
    | 0, hu => simp at hu; subst hu; simp [Addr.add]
  case c2 => intro u hu; simp at hu; subst hu; rfl
  case c3 => unfold maxLen; omega
  case c4 => omega
  case c5 => have := h.lB; simp; omega
  intro v' w1 hown' hgrow _
  have hA := h.below ((Below.refl _ w').alloc (Nat.le_refl _) (.cells #[.int .i64 j] 3))
  have hb2 := hA.grownBelow hgrow
  have hown2 : w1.ownsRow B2 3 1 v' (ch ++ [j]).length (intCells (ch ++ [j])) := by simpa [intCells] using hown'
  have hR := hA.grown hgrow hown2
  have hcell : w1.cell? ⟨S, 19, none⟩ = some chg := (hb2.cell (p := ⟨S, 19, none⟩) h.lS).trans (by simpa using hA.cells 19 _ rfl)
  have hfz : w1.frozen? ⟨S, 19, none⟩ = false := (hb2.frozen (p := ⟨S, 19, none⟩) h.lS).trans (by simpa using (hA.free 19 (by omega)).2)
  have hbB : B ≤ B2 := by have := h.bS; have := h.lS; omega
  have hfin : Below B w' (w1.setCell ⟨S, 19, none⟩ v') := ((((Below.refl _ w').alloc (by have := h.lB; omega) (.cells #[.int .i64 j] 3)).trans (hb2.mono hbB))).setCell (by exact h.bS) _
  obtain ⟨g, cap, hv⟩ : ∃ g cap, v' = .slice (some ⟨g, 0, none⟩) (ch.length + 1) cap := by
    rcases hown'.2 with ⟨_, h0⟩ | ⟨g, cap, cur, hv, _⟩
    · omega
    · exact ⟨g, cap, hv⟩
  rw [hv] at hR hfin ⊢
  clear hA hb2 hown2 hown' hgrow h
  go_wp2
  go_end0
  exact ⟨rfl, ⟨_, hR⟩, hfin⟩

/-- 'note' -/
theorem note17 (w : World) (h : Upd B B2 w S D T R n nm row lk chg ch) (j : Nat) (hl : ch.length ≤ 65536) (hj : j ≤ 65536) (hb : ∀ x ∈ ch, x ≤ 65536) :
    Calls Tryd.prog 26 #[.pointer (some ⟨S, 0, none⟩), .int .i64 j] w fun e w' => e = .returned (.tuple #[]) ∧ (∃ chg', Upd B B2 w' S D T R n nm row lk chg' (noted ch j)) ∧ Below B w w' := by
  cases hin : inL ch j
  · have e : noted ch j = ch ++ [j] := by unfold noted; rw [hin]; rfl
    rw [e]
    exact note17_new w h j hl hj hb hin
  · have e : noted ch j = ch := by unfold noted; rw [hin]; rfl
    rw [e]
    refine (note17_old w h j hl hj hb hin).mono ?_
    rintro e w' ⟨rfl, rfl⟩
    exact ⟨rfl, ⟨_, h⟩, Below.refl _ _⟩

set_option maxHeartbeats 400000 in
/-- 'step.Action = a' -/
theorem act21 (T k ba : Nat) (a x : ByteArray) (w : World) (hc : w.cell? ⟨T, k + 1, none⟩ = some (.string x)) (hf : w.frozen? ⟨T, k + 1, none⟩ = false) (ha : w.cell? ⟨ba, 0, none⟩ = some (.string a)) :
    Calls Tryd.prog 21 #[.pointer (some ⟨T, k, none⟩), .pointer (some ⟨ba, 0, none⟩)] w fun e w' => e = .returned (.tuple #[]) ∧ w' = w.setCell ⟨T, k + 1, none⟩ (.string a) := by
  go_enter Tryd.func21, Tryd.ntmps21
  go_wp2
  go_end0
  exact ⟨rfl, rfl⟩
end
end Go.Proofs.Qxb6615011aDoor
