/- The contracts of the small functions on the second law's road. -/
import Derived.Test.Qxb6615011aDoorTables
import Derived.Test.Qxb6615011aDoorFits
namespace Go.Proofs.Qxb6615011aDoor
open Go.ChangeShapes Go.WideShapes Go.ChangeAt Go.RowKit
set_option linter.unusedVariables false
set_option maxRecDepth 100000

/-- may the action have applied? -/
def mayA (l : List UInt8) : Bool := l == [83, 85, 67, 67, 69, 69, 68, 69, 68] || l == [85, 78, 75, 78, 79, 87, 78]

set_option maxHeartbeats 400000 in
theorem may13 (a : ByteArray) (w : World) : Calls Tryd.prog 13 #[.string a] w fun e w' => e = .returned (.bool (mayA a.toList)) ∧ w' = w := by
  go_enter Tryd.func13, Tryd.ntmps13
  go_wp2
  all_goals
    go_ret
    refine ⟨ret_bool ?_, rfl⟩
    unfold mayA
    simp [*]

set_option maxHeartbeats 400000 in
theorem may14 (a : ByteArray) (w : World) : Calls Tryd.prog 14 #[.string a] w fun e w' => e = .returned (.bool (mayA a.toList)) ∧ w' = w := by
  go_enter Tryd.func14, Tryd.ntmps14
  go_wp2
  all_goals
    go_ret
    refine ⟨ret_bool ?_, rfl⟩
    unfold mayA
    simp [*]

section
variable {B B2 S D T R n : Nat} {nm : Nat → ByteArray} {row : Nat → List Value} {chg : Value} {ch : List Nat}

theorem Upd.saga {w : World} (h : Upd B B2 w S D T R n nm row 0 chg ch) : SagaIn B w S D T R n nm row chg where
  cells := h.cells
  free := h.free
  defs := h.defs
  steps := h.steps
  room := h.room
  bS := h.bS
  bD := h.bD
  bT := h.bT
  apart := h.apart
  dS := h.dS
  dT := h.dT
  lS := Nat.lt_of_lt_of_le h.lS h.lB
  lD := Nat.lt_of_lt_of_le h.lD h.lB
  lT := Nat.lt_of_lt_of_le h.lT h.lB

set_option maxHeartbeats 400000 in
theorem changed15 (w : World) (h : Upd B B2 w S D T R n nm row 0 chg ch) :
    Calls Tryd.prog 15 #[.pointer (some ⟨S, 0, none⟩)] w fun e w' => e = .returned chg ∧ w' = w := by
  have h19 : w.cell? ⟨S, 19, none⟩ = some chg := by simpa using h.cells 19 _ rfl
  clear h
  go_enter Tryd.func15, Tryd.ntmps15
  go_wp2
  go_ret
  exact ⟨rfl, rfl⟩
end

end Go.Proofs.Qxb6615011aDoor
