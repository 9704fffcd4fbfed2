/- The walk of 'FnUpdateStepCountsAndNotesFirstTouchOrder' where it ends ahead of the saga. -/
import Derived.Test.Qxb6615011aCnt
namespace Go.Proofs.Qxb6615011a
open Go.ChangeShapes Go.WideShapes Go.ChangeAt Go.RowKit
set_option linter.unusedVariables false
set_option maxRecDepth 100000

/-- The n numbers ix lie in the slice whose address is ad. -/
def IntsAt (w : World) (ad : Option Addr) (n : Nat) (ix : Nat → Int) : Prop :=
  n = 0 ∨ ∃ b o, ad = some ⟨b, o, none⟩ ∧ ∀ j, j < n → w.cell? ⟨b, o + j, none⟩ = some (.int .i64 (ix j))

set_option maxHeartbeats 400000 in
theorem counts_off (ad : Option Addr) (n c : Nat) (nm : Nat → ByteArray) (ai : Option Addr) (ni ci : Nat) (w : World) (hn : n ≤ 8796093022207) (hi : ni ≤ 17592186044415) (hv : StrsAt w ad n nm) (ho : 4096 < ni ∨ 65536 < n) :
    Calls Try.prog 3 #[.slice ad n c, .slice ai ni ci] w fun e w' => e = .returned (.bool true) ∧ Below w.heap.size w w' := by
  have h4 := bytes4 ad n c nm ai ni ci w hn hi hv
  clear hv
  by_cases h1 : 4096 < ni
  · go_enter Try.func3, Try.ntmps3
    go_wp2_with fail
    refine h4.mono ?_
    rintro e w' ⟨⟨r, rfl⟩, rfl⟩
    clear h4
    cases r
    all_goals
      go_wp2_with fail
      go_ret
      exact ⟨rfl, Below.refl _ _⟩
  · have h2 : 65536 < n := by omega
    go_enter Try.func3, Try.ntmps3
    go_wp2_with fail
    refine h4.mono ?_
    rintro e w' ⟨⟨r, rfl⟩, rfl⟩
    clear h4
    cases r
    all_goals
      go_wp2_with fail
      go_ret
      exact ⟨rfl, Below.refl _ _⟩

set_option maxHeartbeats 400000 in
theorem counts_bad (ad : Option Addr) (n c : Nat) (nm : Nat → ByteArray) (bi oi ni ci : Nat) (ix : Nat → Int) (w : World) (hn : n ≤ 65536) (hi : ni ≤ 4096) (hv : StrsAt w ad n nm)
    (hc : ∀ j, j < ni → w.cell? ⟨bi, oi + j, none⟩ = some (.int .i64 (ix j))) (ho : ∃ j, j < ni ∧ (ix j < 0 ∨ (n : Int) ≤ ix j)) :
    Calls Try.prog 3 #[.slice ad n c, .slice (some ⟨bi, oi, none⟩) ni ci] w fun e w' => e = .returned (.bool true) ∧ Below w.heap.size w w' := by
  have h4 := bytes4 ad n c nm (some ⟨bi, oi, none⟩) ni ci w (by omega) (by omega) hv
  have h5 := left_any ad n c nm (1048576 - 8 * (ni : Int)) w (by omega) (by omega) (by omega) hv
  have HC : Hid (∀ j, j < ni → w.cell? ⟨bi, oi + j, none⟩ = some (.int .i64 (ix j))) := hc
  clear hv hc
  go_enter Try.func3, Try.ntmps3
  go_wp2_with fail
  refine h4.mono ?_
  rintro e w' ⟨⟨r, rfl⟩, rfl⟩
  clear h4
  cases r
  · go_wp2_with fail
    go_ret
    exact ⟨rfl, Below.refl _ _⟩
  · go_wp2_with fail
    refine h5.mono ?_
    rintro e w' ⟨⟨r, rfl, hr⟩, rfl⟩
    clear h5
    rcases hr with rfl | ⟨hr0, hr1, hr2⟩
    · go_wp2_with fail
      go_ret
      exact ⟨rfl, Below.refl _ _⟩
    · clear hr1 hr2
      go_wp2_with fail
      go_loop [5] (fun i => ∃ k : Nat, k ≤ ni ∧ i = .int .i64 k ∧ ∀ j, j < k → 0 ≤ ix j ∧ ix j < n) (fun i => ni - (intOf i).toNat)
      case atStart => exact ⟨0, Nat.zero_le _, rfl, fun j hj => absurd hj (by omega)⟩
      case round =>
        obtain ⟨k, hk, rfl, hgood⟩ := hrel
        have HG : Hid (∀ j, j < k → 0 ≤ ix j ∧ ix j < n) := hgood
        clear hgood
        by_cases hlt : k < ni
        · have hck := HC.out k hlt
          obtain ⟨x, hx⟩ : ∃ x, x = ix k := ⟨_, rfl⟩
          rw [← hx] at hck
          have HX : Hid (x = ix k) := hx
          clear hx
          have hkn : (k : Int) < (ni : Int) := by omega
          by_cases hb1 : x < 0
          · go_wp2_with fail
            go_ret
            exact ⟨rfl, Below.refl _ _⟩
          · by_cases hb2 : x < n
            · go_wp2_with fail
              go_round
              case rel => exact ⟨k + 1, by omega, by go_num, fun j hj => by
                by_cases e : j = k
                · subst e; rw [← HX.out]; omega
                · exact HG.out j (by omega)⟩
              case measure => simp [intOf]; omega
            · go_wp2_with fail
              go_ret
              exact ⟨rfl, Below.refl _ _⟩
        · exfalso
          obtain ⟨j, hj, hj2⟩ := ho
          have := HG.out j (by omega)
          omega
end Go.Proofs.Qxb6615011a
