/- The contracts of the laws' bounds on lengths: 'zzBytes_..' and 'bytesLeft'. -/
import Derived.Test.Qxb6615011aDoorRows
import Derived.WalkKit
import Derived.WalkSpells
import Derived.ProofKit
namespace Go.Proofs.Qxb6615011aDoor
open Go.ChangeShapes Go.WideShapes Go.ChangeAt Go.RowKit
set_option linter.unusedVariables false

/-- The n strings nm lie in the slice whose address is ad. -/
def StrsAt (w : World) (ad : Option Addr) (n : Nat) (nm : Nat → ByteArray) : Prop :=
  (n = 0 ∨ ∃ b o, ad = some ⟨b, o, none⟩ ∧ ∀ j, j < n → w.cell? ⟨b, o + j, none⟩ = some (.string (nm j))) ∧ ∀ j, j < n → (nm j).size ≤ maxLen

theorem StrsAt.below {w w' : World} {ad : Option Addr} {n : Nat} {nm : Nat → ByteArray} (h : StrsAt w ad n nm) (hb : Below w.heap.size w w') : StrsAt w' ad n nm := by
  refine ⟨?_, h.2⟩
  rcases h.1 with h0 | ⟨b, o, e, hc⟩
  · exact .inl h0
  · refine .inr ⟨b, o, e, fun j hj => ?_⟩
    have hcj := hc j hj
    rw [hb.cell (p := ⟨b, o + j, none⟩) (World.block_lt_of_cell? w _ hcj)]
    exact hcj

/-- it answers a bool -/
def IsBool (e : Ending) : Prop := ∃ r : Bool, e = .returned (.bool r)

/-- bytesLeft over n strings -/
theorem left_any (ad : Option Addr) (n c : Nat) (nm : Nat → ByteArray) (z : Int) (w : World) (_hn : n ≤ 8796093022207) (hz : z ≤ 1048576) (hz' : -1048576 ≤ z) (hv : StrsAt w ad n nm) :
    Calls Tryd.prog 6 #[.slice ad n c, .int .i64 z] w fun e w' => (∃ r : Int, e = .returned (.int .i64 r) ∧ (r = -1 ∨ (0 ≤ r ∧ r ≤ z ∧ 8 * (n : Int) ≤ z))) ∧ w' = w := by
  obtain ⟨hv, hs⟩ := hv
  unfold maxLen at hs
  by_cases h1 : z < 0
  · go_enter Tryd.func6, Tryd.ntmps6
    go_wp2
    go_ret
    exact ⟨⟨_, rfl, .inl rfl⟩, rfl⟩
  · by_cases h2 : (n : Int) ≤ z / 8
    · rcases hv with rfl | ⟨b, o, rfl, hc⟩
      · go_enter Tryd.func6, Tryd.ntmps6
        go_wp2
        refine wp_loop_rounds 1 ?_
        rw [rounds_succ]
        go_wp2
        go_ret
        exact ⟨⟨_, rfl, .inr ⟨by omega, by omega, by omega⟩⟩, rfl⟩
      · go_enter Tryd.func6, Tryd.ntmps6
        go_wp2
        go_loop [1, 5] (fun t i => ∃ (k : Nat) (r : Int), k ≤ n ∧ i = .int .i64 k ∧ t = .int .i64 r ∧ 0 ≤ r ∧ r ≤ z) (fun _ i => n - (intOf i).toNat)
        case atStart => exact ⟨0, _, by omega, rfl, rfl, by omega, by omega⟩
        case round =>
          obtain ⟨k, r, hk, rfl, rfl, hr, hr'⟩ := hrel
          by_cases hlt : k < n
          · have hck := hc k hlt
            have hsk := hs k hlt
            go_wp2
            · go_ret
              exact ⟨⟨_, rfl, .inl rfl⟩, rfl⟩
            · go_round
              case rel => exact ⟨k + 1, _, by omega, by go_num, rfl, by omega, by omega⟩
              case measure => simp [intOf]; omega
          · go_wp2
            go_ret
            exact ⟨⟨_, rfl, .inr ⟨hr, hr', by omega⟩⟩, rfl⟩
    · go_enter Tryd.func6, Tryd.ntmps6
      go_wp2
      go_ret
      exact ⟨⟨_, rfl, .inl rfl⟩, rfl⟩

/-- the bound on the lengths of the first law's arguments: it answers -/
theorem bytes5 (ad : Option Addr) (n c : Nat) (nm : Nat → ByteArray) (i att catt : Int) (s a p : ByteArray) (w : World) (_hn : n ≤ 8796093022207) (hv : StrsAt w ad n nm)
    (hs : s.size ≤ maxLen) (ha : a.size ≤ maxLen) (hp : p.size ≤ maxLen) :
    Calls Tryd.prog 5 #[.slice ad n c, .int .i64 i, .string s, .string a, .int .i64 att, .string p, .int .i64 catt] w fun e w' => IsBool e ∧ w' = w := by
  obtain ⟨hv, hm⟩ := hv
  unfold maxLen at hs ha hp hm
  by_cases h1 : n ≤ 1048576
  · rcases hv with rfl | ⟨b, o, rfl, hc⟩
    · go_enter Tryd.func5, Tryd.ntmps5
      go_wp2
      refine wp_loop_rounds 1 ?_
      rw [rounds_succ]
      go_wp2
      all_goals
        go_ret
        exact ⟨⟨_, rfl⟩, rfl⟩
    · go_enter Tryd.func5, Tryd.ntmps5
      go_wp2
      go_loop [15, 16] (fun t i => ∃ (k : Nat) (r : Int), k ≤ n ∧ i = .int .i64 k ∧ t = .int .i64 r ∧ 0 ≤ r ∧ r ≤ 1048576) (fun _ i => n - (intOf i).toNat)
      case atStart => exact ⟨0, _, by omega, rfl, rfl, by omega, by omega⟩
      case round =>
        obtain ⟨k, r, hk, rfl, rfl, hr, hr'⟩ := hrel
        by_cases hlt : k < n
        · have hck := hc k hlt
          have hsk := hm k hlt
          go_wp2
          · go_ret
            exact ⟨⟨_, rfl⟩, rfl⟩
          · go_ret
            exact ⟨⟨_, rfl⟩, rfl⟩
          · go_round
            case rel => exact ⟨k + 1, _, by omega, by go_num, rfl, by omega, by omega⟩
            case measure => simp [intOf]; omega
        · go_wp2
          all_goals
            go_ret
            exact ⟨⟨_, rfl⟩, rfl⟩
  · go_enter Tryd.func5, Tryd.ntmps5
    go_wp2
    go_ret
    exact ⟨⟨_, rfl⟩, rfl⟩
end Go.Proofs.Qxb6615011aDoor
