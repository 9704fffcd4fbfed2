/- The contracts of 'fitsStep', 'ZZfitsStep', 'ZZsteps'. -/
import Derived.Test.Qxb6615011aDoorSaga
import Derived.Test.Qxb6615011aDoorTab
import Derived.Deep.QuietTactic
import Derived.BigQuiet
import Derived.WalkSmall
namespace Go.Proofs.Qxb6615011aDoor
open Go.ChangeShapes Go.WideShapes Go.ChangeAt Go.RowKit
set_option linter.unusedVariables false

/-- the table of the five statuses lies in the package's variable -/
def TabIn (w : World) : Prop := ∃ b o c, w.cell? ⟨0, 0, none⟩ = some (.slice (some ⟨b, o, none⟩) 5 c) ∧ ∀ j, j < 5 → w.cell? ⟨b, o + j, none⟩ = some (.string (tab j))

theorem TabIn.below {w w' : World} (h : TabIn w) (hb : Below w.heap.size w w') : TabIn w' := by
  obtain ⟨b, o, c, h1, h2⟩ := h
  refine ⟨b, o, c, ?_, fun j hj => ?_⟩
  · rw [hb.cell (p := ⟨0, 0, none⟩) (World.block_lt_of_cell? w _ h1)]; exact h1
  · rw [hb.cell (p := ⟨b, o + j, none⟩) (World.block_lt_of_cell? w _ (h2 j hj))]; exact h2 j hj

set_option maxHeartbeats 400000 in
theorem steps8 {B S D T R n : Nat} {nm : Nat → ByteArray} {row : Nat → List Value} {chg : Value} (w : World) (h : SagaIn B w S D T R n nm row chg) :
    Calls Tryd.prog 8 #[.pointer (some ⟨S, 0, none⟩)] w fun e w' => e = .returned (.slice (some ⟨T, 0, none⟩) n n) ∧ w' = w := by
  have h18 : w.cell? ⟨S, 18, none⟩ = some (.slice (some ⟨T, 0, none⟩) n n) := by simpa using h.cells 18 _ rfl
  clear h
  go_enter Tryd.func8, Tryd.ntmps8
  go_wp2
  go_ret
  exact ⟨rfl, rfl⟩

set_option maxHeartbeats 400000 in
theorem fits19 {B S D T R n : Nat} {nm : Nat → ByteArray} {row : Nat → List Value} {chg : Value} (w : World) (h : SagaIn B w S D T R n nm row chg) (ht : TabIn w) (k : Nat) (hk : k < n) (hn : n ≤ 131072)
    (a b c : ByteArray) (x y : Int) :
    Calls Tryd.prog 19 #[.pointer (some ⟨S, 0, none⟩), .int .i64 k, .agg #[.string a, .string b, .int .i64 x, .string c, .int .i64 y]] w
      fun e w' => e = .returned (.bool ((a.toList == (nm k).toList) && isAct b.toList)) ∧ Below w.heap.size w w' := by
  have hlw : Below w.heap.size w (w.alloc (.cells #[.string a, .string b, .int .i64 x, .string c, .int .i64 y] 32)) := (Below.refl _ _).alloc (Nat.le_refl _) _
  obtain ⟨b0, o0, c0, g0, g1⟩ := ht.below hlw
  have h' := h.below hlw
  have h4 := h'.cells 4 _ rfl
  have hd := h'.defs k hk 0 _ rfl
  simp only [Nat.zero_add, Nat.add_zero] at h4 hd
  clear h h' ht
  have hkn : (k : Int) < (n : Int) := by omega
  by_cases he : (a.toList == (nm k).toList) = true
  · go_enter Tryd.func19, Tryd.ntmps19
    go_wp2_with fail
    go_quiet ((go_at_call 23; exact Calls.quiet_of_same (contains23 _ _ _ _ _ g1)))
    go_wp2
    go_ret
    exact ⟨ret_bool (by rw [he, Bool.true_and]), below_drewN hlw _⟩
  · have hd' : (a.toList == (nm k).toList) = false := by simpa using he
    go_enter Tryd.func19, Tryd.ntmps19
    go_wp2_with fail
    go_quiet (fail)
    go_wp2
    go_ret
    exact ⟨ret_bool (by rw [hd', Bool.false_and]), below_drewN hlw _⟩

set_option maxHeartbeats 400000 in
theorem fits9 {B S D T R n : Nat} {nm : Nat → ByteArray} {row : Nat → List Value} {chg : Value} (w : World) (h : SagaIn B w S D T R n nm row chg) (ht : TabIn w) (k : Nat) (hk : k < n) (hn : n ≤ 131072)
    (a b c : ByteArray) (x y : Int) :
    Calls Tryd.prog 9 #[.pointer (some ⟨S, 0, none⟩), .int .i64 k, .agg #[.string a, .string b, .int .i64 x, .string c, .int .i64 y]] w
      fun e w' => e = .returned (.bool ((a.toList == (nm k).toList) && isAct b.toList)) ∧ Below w.heap.size w w' := by
  have hlw : Below w.heap.size w (w.alloc (.cells #[.string a, .string b, .int .i64 x, .string c, .int .i64 y] 32)) := (Below.refl _ _).alloc (Nat.le_refl _) _
  have hf := fits19 _ (h.below hlw) (ht.below hlw) k hk hn a b c x y
  clear h ht
  go_enter Tryd.func9, Tryd.ntmps9
  go_wp2_with fail
  refine hf.mono ?_
  rintro e w' ⟨rfl, hb⟩
  clear hf
  go_wp2_with fail
  go_ret
  exact ⟨rfl, hlw.trans (hb.mono (by simp))⟩
end Go.Proofs.Qxb6615011aDoor
