/- The walk of 'FnNewStepsFitAndFitsStepExact'. -/
import Derived.Test.Qxb6615011aDoorFits
namespace Go.Proofs.Qxb6615011aDoor
open Go.ChangeShapes Go.WideShapes Go.ChangeAt Go.RowKit
set_option linter.unusedVariables false

set_option maxHeartbeats 400000 in
/-- where the law ends ahead of the saga -/
theorem exact_early (ad : Option Addr) (n c : Nat) (nm : Nat → ByteArray) (i att catt : Int) (s a p : ByteArray) (w : World) (hn : n ≤ 8796093022207) (hv : StrsAt w ad n nm)
    (hs : s.size ≤ maxLen) (ha : a.size ≤ maxLen) (hp : p.size ≤ maxLen) (ho : i < 0 ∨ (n : Int) ≤ i) :
    Calls Tryd.prog 3 #[.slice ad n c, .int .i64 i, .string s, .string a, .int .i64 att, .string p, .int .i64 catt] w fun e w' => e = .returned (.bool true) ∧ Below w.heap.size w w' := by
  have h5 := bytes5 ad n c nm i att catt s a p w hn hv hs ha hp
  have h6 := fun z h h' => left_any ad n c nm z w hn h h' hv
  have H6 : Hid (∀ (z : Int), z ≤ 1048576 → -1048576 ≤ z → Calls Tryd.prog 6 #[.slice ad n c, .int .i64 z] w fun e w' => (∃ r : Int, e = .returned (.int .i64 r) ∧ (r = -1 ∨ (0 ≤ r ∧ r ≤ z ∧ 8 * (n : Int) ≤ z))) ∧ w' = w) := h6
  clear hv h6
  unfold maxLen at hs ha hp
  go_enter Tryd.func3, Tryd.ntmps3
  go_wp2_with fail
  refine h5.mono ?_
  rintro e w' ⟨⟨r, rfl⟩, rfl⟩
  clear h5
  cases r
  · go_wp2_with fail
    go_ret
    exact ⟨rfl, Below.refl _ _⟩
  · go_wp2_with fail
    · go_ret
      exact ⟨rfl, Below.refl _ _⟩
    · go_ret
      exact ⟨rfl, Below.refl _ _⟩
    · go_ret
      exact ⟨rfl, Below.refl _ _⟩
    · refine (H6.out _ (by omega) (by omega)).mono ?_
      rintro e w' ⟨⟨r, rfl, hr⟩, rfl⟩
      clear H6
      rcases ho with ho | ho
      all_goals
        go_wp2_with fail
        all_goals
          go_ret
          exact ⟨rfl, Below.refl _ _⟩

theorem five_cells {w : World} {b o : Nat} {s : ByteArray} (h : w.rangeAt b o (stepRow s)) : w.cell? ⟨b, o, none⟩ = some (.string s) ∧ w.cell? ⟨b, o + 1, none⟩ = some (.string ⟨#[78, 79, 84, 95, 82, 85, 78]⟩) ∧ w.cell? ⟨b, o + 2, none⟩ = some (.int .i64 0) ∧
    w.cell? ⟨b, o + 3, none⟩ = some (.string ⟨#[78, 79, 84, 95, 78, 69, 69, 68, 69, 68]⟩) ∧ w.cell? ⟨b, o + 4, none⟩ = some (.int .i64 0) :=
  ⟨h 0 _ rfl, h 1 _ rfl, h 2 _ rfl, h 3 _ rfl, h 4 _ rfl⟩

theorem fresh_yes (s : ByteArray) : (s.toList == s.toList && isAct (ByteArray.toList ⟨#[78, 79, 84, 95, 82, 85, 78]⟩)) = true := by
  rw [Lib.toList_data ⟨#[78, 79, 84, 95, 82, 85, 78]⟩]
  have : isAct (⟨#[78, 79, 84, 95, 82, 85, 78]⟩ : ByteArray).data.toList = true := by decide
  rw [this]; simp

set_option maxHeartbeats 1000000 in
/-- where the law comes to the saga -/
theorem exact_main (b o n c m : Nat) (nm : Nat → ByteArray) (att catt : Int) (s a p : ByteArray) (w : World) (hn : n ≤ 8796093022207) (hv : StrsAt w (some ⟨b, o, none⟩) n nm) (ht : TabIn w)
    (hc : ∀ j, j < n → w.cell? ⟨b, o + j, none⟩ = some (.string (nm j)))
    (hs : s.size ≤ maxLen) (ha : a.size ≤ maxLen) (hp : p.size ≤ maxLen) (hm : m < n) :
    Calls Tryd.prog 3 #[.slice (some ⟨b, o, none⟩) n c, .int .i64 m, .string s, .string a, .int .i64 att, .string p, .int .i64 catt] w fun e w' => e = .returned (.bool true) ∧ Below w.heap.size w w' := by
  have h5 := bytes5 (some ⟨b, o, none⟩) n c nm m att catt s a p w hn hv hs ha hp
  have h6 := fun z h h' => left_any (some ⟨b, o, none⟩) n c nm z w hn h h' hv
  have H6 : Hid (∀ (z : Int), z ≤ 1048576 → -1048576 ≤ z → Calls Tryd.prog 6 #[.slice (some ⟨b, o, none⟩) n c, .int .i64 z] w fun e w' => (∃ r : Int, e = .returned (.int .i64 r) ∧ (r = -1 ∨ (0 ≤ r ∧ r ≤ z ∧ 8 * (n : Int) ≤ z))) ∧ w' = w) := h6
  have h7 := fun h => named7 (some ⟨b, o, none⟩) n c nm w h hv
  have H7 : Hid (n ≤ 131072 → Calls Tryd.prog 7 #[.slice (some ⟨b, o, none⟩) n c] w fun e w' => SagaPost w n nm e w') := h7
  have HC : Hid (∀ j, j < n → w.cell? ⟨b, o + j, none⟩ = some (.string (nm j))) := hc
  have HT : Hid (TabIn w) := ht
  clear hv h6 h7 hc ht
  unfold maxLen at hs ha hp
  go_enter Tryd.func3, Tryd.ntmps3
  go_wp2_with fail
  refine h5.mono ?_
  rintro e w' ⟨⟨r, rfl⟩, rfl⟩
  clear h5
  cases r
  · go_wp2_with fail
    go_ret
    exact ⟨rfl, Below.refl _ _⟩
  · go_wp2_with fail
    · go_ret
      exact ⟨rfl, Below.refl _ _⟩
    · go_ret
      exact ⟨rfl, Below.refl _ _⟩
    · go_ret
      exact ⟨rfl, Below.refl _ _⟩
    · refine (H6.out _ (by omega) (by omega)).mono ?_
      rintro e w' ⟨⟨r, rfl, hr⟩, rfl⟩
      clear H6
      rcases hr with rfl | ⟨hr0, hr1, hr2⟩
      · go_wp2_with fail
        go_ret
        exact ⟨rfl, Below.refl _ _⟩
      · have hn' : n ≤ 131072 := by omega
        clear hr1 hr2
        go_wp2_with fail
        refine (H7.out hn').mono ?_
        clear H7
        rintro e w2 ⟨S, D, T, R, rfl, hS, hb⟩
        have hst := steps8 w2 hS
        go_wp2_with fail
        refine hst.mono ?_
        clear hst
        rintro e w3 ⟨rfl, rfl⟩
        go_wp2_with fail
        go_loopw [18] (fun i wr => ∃ k : Nat, k ≤ n ∧ i = .int .i64 k ∧ Below w3.heap.size w3 wr) (fun i _ => n - (intOf i).toNat)
        case atStart => exact ⟨0, Nat.zero_le _, rfl, Below.refl _ _⟩
        case round =>
          obtain ⟨k, hk, rfl, hbr⟩ := hrel
          have hbw : Below w'.heap.size w' wr := hb.trans (hbr.mono hb.size)
          by_cases hlt : k < n
          · have hlw : ∀ ob, Below wr.heap.size wr (wr.alloc ob) := fun ob => (Below.refl _ _).alloc (Nat.le_refl _) _
            have hck : wr.cell? ⟨b, o + k, none⟩ = some (.string (nm k)) := (hbw.cell (p := ⟨b, o + k, none⟩) (World.block_lt_of_cell? w' _ (HC.out k hlt))).trans (HC.out k hlt)
            have hSr := hS.below hbr
            have hrow := fun ob => five_cells ((hSr.below (hlw ob)).steps k hlt)
            obtain ⟨q0, q1, q2, q3, q4⟩ : (∀ ob, (wr.alloc ob).cell? ⟨T, k * 5, none⟩ = some (.string (nm k))) ∧ (∀ ob, (wr.alloc ob).cell? ⟨T, k * 5 + 1, none⟩ = some (.string ⟨#[78, 79, 84, 95, 82, 85, 78]⟩)) ∧ (∀ ob, (wr.alloc ob).cell? ⟨T, k * 5 + 2, none⟩ = some (.int .i64 0)) ∧
                (∀ ob, (wr.alloc ob).cell? ⟨T, k * 5 + 3, none⟩ = some (.string ⟨#[78, 79, 84, 95, 78, 69, 69, 68, 69, 68]⟩)) ∧ (∀ ob, (wr.alloc ob).cell? ⟨T, k * 5 + 4, none⟩ = some (.int .i64 0)) :=
              ⟨fun ob => (hrow ob).1, fun ob => (hrow ob).2.1, fun ob => (hrow ob).2.2.1, fun ob => (hrow ob).2.2.2.1, fun ob => (hrow ob).2.2.2.2⟩
            clear hrow
            have hkn : (k : Int) < (n : Int) := by omega
            go_wp2_with fail
            go_quiet (fail)
            go_wp2_with fail
            have hW : ∀ ob, Below w3.heap.size w3 ((wr.alloc ob).drewN nq) := fun ob => hbr.trans ((below_drewN (hlw ob) nq).mono hbr.size)
            have hf := fun ob => fits9 ((wr.alloc ob).drewN nq) (hS.below (hW ob)) ((HT.out.below hbw).below (below_drewN (hlw ob) nq)) k hlt hn' (nm k) ⟨#[78, 79, 84, 95, 82, 85, 78]⟩ ⟨#[78, 79, 84, 95, 78, 69, 69, 68, 69, 68]⟩ 0 0
            refine (hf _).mono ?_
            clear hf q0 q1 q2 q3 q4
            rintro e w4 ⟨rfl, hb4⟩
            rw [fresh_yes]
            go_wp2_with fail
            go_roundw
            case rel => exact ⟨k + 1, by omega, by go_num, (hW _).trans (hb4.mono (hW _).size)⟩
            case measure => simp [intOf]; omega
          · have hlw : ∀ ob, Below wr.heap.size wr (wr.alloc ob) := fun ob => (Below.refl _ _).alloc (Nat.le_refl _) _
            have hW : ∀ ob, Below w3.heap.size w3 (wr.alloc ob) := fun ob => hbr.trans ((hlw ob).mono hbr.size)
            have hf := fun ob => fits9 (wr.alloc ob) (hS.below (hW ob)) ((HT.out.below hbw).below (hlw ob)) m hm hn' s a p att catt
            go_wp2_with fail
            refine (hf _).mono ?_
            clear hf
            rintro e w4 ⟨rfl, hb4⟩
            have hb5 : Below w'.heap.size w' w4 := (hb.trans ((hW _).mono hb.size)).trans (hb4.mono (Nat.le_trans hb.size (hW _).size))
            have hcm : w4.cell? ⟨b, o + m, none⟩ = some (.string (nm m)) := (hb5.cell (p := ⟨b, o + m, none⟩) (World.block_lt_of_cell? w' _ (HC.out m hm))).trans (HC.out m hm)
            have hmn : (m : Int) < (n : Int) := by omega
            by_cases he : (s.toList == (nm m).toList) = true
            · rw [he, Bool.true_and]
              go_wp2_with fail
              refine (isAct10 _ _).mono ?_
              rintro e w6 ⟨rfl, rfl⟩
              go_wp2_with fail
              go_ret
              exact ⟨ret_bool (by simp), hb5⟩
            · have hd' : (s.toList == (nm m).toList) = false := by simpa using he
              rw [hd', Bool.false_and]
              go_wp2_with fail
              go_ret
              exact ⟨rfl, hb5⟩
end Go.Proofs.Qxb6615011aDoor
