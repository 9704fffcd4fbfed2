/- The contract of 'newSagaNamed', and the predicate 'a saga lies here'. -/
import Derived.Test.Qxb6615011aDoorNew
namespace Go.Proofs.Qxb6615011aDoor
open Go.ChangeShapes Go.WideShapes Go.ChangeAt Go.RowKit
set_option linter.unusedVariables false

/-- a saga lies in the world w at S: its n definitions at D, its n steps 'row' at T, the noted steps chg; all in blocks from B on -/
structure SagaIn (B : Nat) (w : World) (S D T R n : Nat) (nm : Nat → ByteArray) (row : Nat → List Value) (chg : Value) : Prop where
  cells : w.rangeAt S 0 (sagaRow D T n R chg)
  free : w.there S 0 22
  defs : ∀ j, j < n → w.rangeAt D (j * 7) (defRow (nm j))
  steps : ∀ j, j < n → w.rangeAt T (j * 5) (row j)
  room : w.there T 0 (n * 5)
  bS : B ≤ S
  bD : B ≤ D
  bT : B ≤ T
  apart : T ≠ S
  dS : D ≠ S
  dT : D ≠ T
  lS : S < w.heap.size
  lD : D < w.heap.size
  lT : T < w.heap.size

theorem SagaIn.below {B S D T R n : Nat} {w w' : World} {nm : Nat → ByteArray} {row : Nat → List Value} {chg : Value} (h : SagaIn B w S D T R n nm row chg) (hb : Below w.heap.size w w') :
    SagaIn B w' S D T R n nm row chg where
  cells := rangeAt_below h.cells hb h.lS
  free := there_below h.free hb h.lS
  defs := fun j hj => rangeAt_below (h.defs j hj) hb h.lD
  steps := fun j hj => rangeAt_below (h.steps j hj) hb h.lT
  room := there_below h.room hb h.lT
  bS := h.bS
  bD := h.bD
  bT := h.bT
  apart := h.apart
  dS := h.dS
  dT := h.dT
  lS := Nat.lt_of_lt_of_le h.lS hb.size
  lD := Nat.lt_of_lt_of_le h.lD hb.size
  lT := Nat.lt_of_lt_of_le h.lT hb.size

/-- what stands in newSagaNamed's loop when k definitions are laid -/
structure DefRel (w : World) (n : Nat) (nm : Nat → ByteArray) (k : Nat) (wr : World) : Prop where
  below : Below w.heap.size w wr
  size : w.heap.size < wr.heap.size
  there : wr.there w.heap.size 0 (n * 7)
  rows : ∀ j, j < k → wr.rangeAt w.heap.size (j * 7) (defRow (nm j))

theorem defRel_start (w : World) (n : Nat) (nm : Nat → ByteArray) : DefRel w n nm 0 (w.alloc (.cells (madeCells (defRow ⟨#[]⟩).toArray (n * 7)) 44)) where
  below := (Below.refl _ _).alloc (Nat.le_refl _) _
  size := by simp
  there := there_made w _ _ _
  rows := fun j hj => absurd hj (by omega)

theorem defRel_step {w wr w1 : World} {n k : Nat} {nm : Nat → ByteArray} (h : DefRel w n nm k wr) (hk : k < n) (hb : Below wr.heap.size wr w1) :
    DefRel w n nm (k + 1) (w1.setCells w.heap.size (k * 7) (defRow (nm k))) where
  below := below_setCells (Nat.le_refl _) _ _ _ (h.below.trans (hb.mono h.below.size))
  size := by rw [size_setCells]; exact Nat.lt_of_lt_of_le h.size hb.size
  there := World.there_setCells (there_below h.there hb h.size) _ _ _
  rows := fun j hj => by
    by_cases e : j = k
    · subst e
      exact World.rangeAt_setCells_same _ _ _ _ (there_part (there_below h.there hb h.size) (by simp [defRow]; omega))
    · refine World.rangeAt_setCells_apart (rangeAt_below (h.rows j (by omega)) hb h.size) _ _ _ (.inr (.inl ?_))
      simp [defRow]; omega

/-- what newSagaNamed leaves -/
def SagaPost (w : World) (n : Nat) (nm : Nat → ByteArray) (e : Ending) (w' : World) : Prop :=
  ∃ S D T R, e = .returned (.pointer (some ⟨S, 0, none⟩)) ∧ SagaIn w.heap.size w' S D T R n nm (fun j => stepRow (nm j)) (.slice none 0 0) ∧ Below w.heap.size w w'

theorem sagaPost_of {w wr w1 w' : World} {n k : Nat} {nm : Nat → ByteArray} {e : Ending} (h : DefRel w n nm k wr) (hk : n ≤ k) (hb : Below wr.heap.size wr w1) (hp : NewPost w1 w.heap.size n nm e w') :
    SagaPost w n nm e w' := by
  obtain ⟨S, T, R, he, h1, h2, h3, h4, h5, h6, h7, h8⟩ := hp
  have hs := hb.size
  have hsz := h.size
  have hbw : Below w.heap.size w w' := (h.below.trans (hb.mono h.below.size)).trans (h5.mono (by omega))
  refine ⟨S, w.heap.size, T, R, he, ⟨h1, h2, fun j hj => ?_, h3, h4, by omega, Nat.le_refl _, by omega, by omega, by omega, by omega, h8, by omega, by omega⟩, hbw⟩
  exact rangeAt_below (rangeAt_below (h.rows j (by omega)) hb h.size) h5 (by omega)

set_option maxHeartbeats 400000 in
theorem named7 (ad : Option Addr) (n c : Nat) (nm : Nat → ByteArray) (w : World) (hn : n ≤ 131072) (hv : StrsAt w ad n nm) :
    Calls Tryd.prog 7 #[.slice ad n c] w fun e w' => SagaPost w n nm e w' := by
  have hm := make44 n hn
  rcases hv.1 with h0 | ⟨b, o, rfl, hc⟩
  · have H0 : Hid (n = 0) := h0
    clear h0
    go_enter Tryd.func7, Tryd.ntmps7
    go_wp2_with fail
    clear hm
    go_loopw [4] (fun i wr => ∃ k : Nat, k ≤ n ∧ i = .int .i64 k ∧ DefRel w n nm k wr) (fun i _ => n - (intOf i).toNat)
    case atStart => exact ⟨0, Nat.zero_le _, rfl, defRel_start w n nm⟩
    case round =>
      obtain ⟨k, hk, rfl, hR⟩ := hrel
      by_cases hlt : k < n
      · exact absurd hlt (by have := H0.out; omega)
      · go_wp2_with fail
        refine (zeroTime18 _).mono ?_
        rintro e w1 ⟨rfl, hb⟩
        have hDw : w.heap.size < w1.heap.size := Nat.lt_of_lt_of_le hR.size hb.size
        have hD : ∀ j, j < n → w1.rangeAt w.heap.size (j * 7) (defRow (nm j)) := fun j hj => rangeAt_below (hR.rows j (by omega)) hb hR.size
        have hfin := fun e w' => @sagaPost_of w wr w1 w' n k nm e hR (by omega) hb
        clear hR hb
        go_wp2_with fail
        refine (new17 _ n nm _ hn hDw hD).mono ?_
        intro e w2 hp
        have hp' := hfin e w2 hp
        obtain ⟨S, T, R, rfl, _⟩ := hp
        go_wp2_with fail
        go_ret
        exact hp'
  · go_enter Tryd.func7, Tryd.ntmps7
    go_wp2_with fail
    clear hm
    go_loopw [4] (fun i wr => ∃ k : Nat, k ≤ n ∧ i = .int .i64 k ∧ DefRel w n nm k wr) (fun i _ => n - (intOf i).toNat)
    case atStart => exact ⟨0, Nat.zero_le _, rfl, defRel_start w n nm⟩
    case round =>
      obtain ⟨k, hk, rfl, hR⟩ := hrel
      by_cases hlt : k < n
      · have hck : wr.cell? ⟨b, o + k, none⟩ = some (.string (nm k)) := (hR.below.cell (p := ⟨b, o + k, none⟩) (World.block_lt_of_cell? w _ (hc k hlt))).trans (hc k hlt)
        go_wp2_with fail
        refine (stepDef16 _ _).mono ?_
        rintro e w1 ⟨rfl, hb⟩
        have hth : w1.there w.heap.size (k * 7) (defRow (nm k)).length := there_part (there_below hR.there hb hR.size) (by simp [defRow]; omega)
        have hnext := defRel_step hR hlt hb
        clear hR hb
        go_wp2_with (with_reducible refine store_mid 44 w.heap.size (k * 7) (defRow (nm k)) (by kernel_rfl) (by simp [defRow, Value.oneCell']) hth rfl rfl ?_)
        go_roundw
        case rel => exact ⟨k + 1, by omega, by go_num, hnext⟩
        case measure => simp [intOf]; omega
      · go_wp2_with fail
        refine (zeroTime18 _).mono ?_
        rintro e w1 ⟨rfl, hb⟩
        have hDw : w.heap.size < w1.heap.size := Nat.lt_of_lt_of_le hR.size hb.size
        have hD : ∀ j, j < n → w1.rangeAt w.heap.size (j * 7) (defRow (nm j)) := fun j hj => rangeAt_below (hR.rows j (by omega)) hb hR.size
        have hfin := fun e w' => @sagaPost_of w wr w1 w' n k nm e hR (by omega) hb
        clear hR hb
        go_wp2_with fail
        refine (new17 _ n nm _ hn hDw hD).mono ?_
        intro e w2 hp
        have hp' := hfin e w2 hp
        obtain ⟨S, T, R, rfl, _⟩ := hp
        go_wp2_with fail
        go_ret
        exact hp'
end Go.Proofs.Qxb6615011aDoor
