/- The bound on the lengths of the second law's arguments: it answers. -/
import Derived.Test.Qxb6615011aDoorLens
namespace Go.Proofs.Qxb6615011aDoor
open Go.ChangeShapes Go.WideShapes Go.ChangeAt Go.RowKit
set_option linter.unusedVariables false
set_option maxRecDepth 100000

set_option maxHeartbeats 1000000 in
theorem bytes11 (ad : Option Addr) (n c : Nat) (nm : Nat → ByteArray) (ai : Option Addr) (ni ci : Nat) (aa : Option Addr) (na ca : Nat) (ac : Nat → ByteArray) (w : World)
    (hn : n ≤ 8796093022207) (hi : ni ≤ 17592186044415) (ha : na ≤ 8796093022207) (hv : StrsAt w ad n nm) (hva : StrsAt w aa na ac) :
    Calls Tryd.prog 11 #[.slice ad n c, .slice ai ni ci, .slice aa na ca] w fun e w' => IsBool e ∧ w' = w := by
  obtain ⟨hv, hm⟩ := hv
  obtain ⟨hva, hma⟩ := hva
  unfold maxLen at hm hma
  by_cases h1 : n ≤ 1048576
  · go_enter Tryd.func11, Tryd.ntmps11
    go_wp2
    go_loop [7, 8] (fun t i => ∃ (k : Nat) (r : Int), k ≤ n ∧ i = .int .i64 k ∧ t = .int .i64 r ∧ 0 ≤ r ∧ r ≤ 1048576) (fun _ i => n - (intOf i).toNat)
    case atStart => exact ⟨0, _, by omega, rfl, rfl, by omega, by omega⟩
    case round =>
      obtain ⟨k, r, hk, rfl, rfl, hr, hr'⟩ := hrel
      by_cases hlt : k < n
      · rcases hv with h0 | ⟨b, o, rfl, hc⟩
        · exact absurd hlt (by omega)
        have hck := hc k hlt
        have hsk := hm k hlt
        clear hm hma hva hc
        go_wp2
        · go_ret
          exact ⟨⟨_, rfl⟩, rfl⟩
        · go_ret
          exact ⟨⟨_, rfl⟩, rfl⟩
        · go_round
          case rel => exact ⟨k + 1, _, by omega, by go_num, rfl, by omega, by omega⟩
          case measure => simp [intOf]; omega
      · clear hv hm
        by_cases h2 : ni ≤ 1048576
        · by_cases h3 : r + ni ≤ 1048576
          · by_cases h4 : na ≤ 1048576
            · by_cases h5 : r + ni + na ≤ 1048576
              · go_wp2
                go_loop [7, 9] (fun t i => ∃ (k : Nat) (r : Int), k ≤ na ∧ i = .int .i64 k ∧ t = .int .i64 r ∧ 0 ≤ r ∧ r ≤ 1048576) (fun _ i => na - (intOf i).toNat)
                case atStart => exact ⟨0, _, by omega, rfl, rfl, by omega, by omega⟩
                case round =>
                  clear h3 h5 hr hr' hk hlt
                  obtain ⟨k, r, hk, rfl, rfl, hr, hr'⟩ := hrel
                  by_cases hlt : k < na
                  · rcases hva with h0 | ⟨b, o, rfl, hc⟩
                    · exact absurd hlt (by omega)
                    have hck := hc k hlt
                    have hsk := hma k hlt
                    clear hma hc
                    go_wp2
                    · go_ret
                      exact ⟨⟨_, rfl⟩, rfl⟩
                    · go_ret
                      exact ⟨⟨_, rfl⟩, rfl⟩
                    · go_round
                      case rel => exact ⟨k + 1, _, by omega, by go_num, rfl, by omega, by omega⟩
                      case measure => simp [intOf]; omega
                  · clear hva hma
                    go_wp2
                    go_ret
                    exact ⟨⟨_, rfl⟩, rfl⟩
              · clear hva hma
                go_wp2
                go_ret
                exact ⟨⟨_, rfl⟩, rfl⟩
            · clear hva hma
              go_wp2
              go_ret
              exact ⟨⟨_, rfl⟩, rfl⟩
          · clear hva hma
            go_wp2
            go_ret
            exact ⟨⟨_, rfl⟩, rfl⟩
        · clear hva hma
          go_wp2
          go_ret
          exact ⟨⟨_, rfl⟩, rfl⟩
  · clear hv hm hva hma
    go_enter Tryd.func11, Tryd.ntmps11
    go_wp2
    go_ret
    exact ⟨⟨_, rfl⟩, rfl⟩
end Go.Proofs.Qxb6615011aDoor
