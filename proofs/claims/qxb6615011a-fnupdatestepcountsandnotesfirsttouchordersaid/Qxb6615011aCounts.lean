/- The walk of 'FnUpdateStepCountsAndNotesFirstTouchOrder' where it comes to the saga. -/
import Derived.Test.Qxb6615011aCountsEarly
import Derived.Deep.QuietTactic
import Derived.BigQuiet
import Derived.WalkSmall
namespace Go.Proofs.Qxb6615011a
open Go.ChangeShapes Go.WideShapes Go.ChangeAt Go.RowKit
set_option linter.unusedVariables false
set_option maxRecDepth 100000

set_option maxHeartbeats 400000 in
theorem steps8 {B B2 S D T R n : Nat} {nm : Nat → ByteArray} {row : Nat → List Value} {lk : Int} {chg : Value} {ch : List Nat} (w : World) (h : Upd B B2 w S D T R n nm row lk chg ch) :
    Calls Try.prog 8 #[.pointer (some ⟨S, 0, none⟩)] w fun e w' => e = .returned (.slice (some ⟨T, 0, none⟩) n n) ∧ w' = w := by
  have h18 : w.cell? ⟨S, 18, none⟩ = some (.slice (some ⟨T, 0, none⟩) n n) := by simpa using h.cells 18 _ rfl
  clear h
  go_enter Try.func8, Try.ntmps8
  go_wp2
  go_ret
  exact ⟨rfl, rfl⟩

set_option maxHeartbeats 400000 in
theorem changed9 {B B2 S D T R n : Nat} {nm : Nat → ByteArray} {row : Nat → List Value} {lk : Int} {chg : Value} {ch : List Nat} (w : World) (h : Upd B B2 w S D T R n nm row lk chg ch) :
    Calls Try.prog 9 #[.pointer (some ⟨S, 0, none⟩)] w fun e w' => e = .returned chg ∧ w' = w := by
  have h19 : w.cell? ⟨S, 19, none⟩ = some chg := by simpa using h.cells 19 _ rfl
  clear h
  go_enter Try.func9, Try.ntmps9
  go_wp2
  go_ret
  exact ⟨rfl, rfl⟩

theorem five_cellsK {w : World} {b o : Nat} {nm : Nat → ByteArray} {L : List Nat} {k j : Nat} (h : w.rangeAt b o (rowK nm L k j)) : w.cell? ⟨b, o, none⟩ = some (.string (nm j)) ∧ w.cell? ⟨b, o + 1, none⟩ = some (.string ⟨#[78, 79, 84, 95, 82, 85, 78]⟩) ∧ w.cell? ⟨b, o + 2, none⟩ = some (.int .i64 (cntK L k j)) ∧
    w.cell? ⟨b, o + 3, none⟩ = some (.string ⟨#[78, 79, 84, 95, 78, 69, 69, 68, 69, 68]⟩) ∧ w.cell? ⟨b, o + 4, none⟩ = some (.int .i64 0) :=
  ⟨h 0 _ rfl, h 1 _ rfl, h 2 _ rfl, h 3 _ rfl, h 4 _ rfl⟩

set_option maxHeartbeats 2000000 in
theorem counts_main (b o n c bi oi ci : Nat) (nm : Nat → ByteArray) (L : List Nat) (w : World) (hn : n ≤ 65536) (hi : L.length ≤ 4096) (hv : StrsAt w (some ⟨b, o, none⟩) n nm)
    (hcn : ∀ j, j < n → w.cell? ⟨b, o + j, none⟩ = some (.string (nm j)))
    (hci : ∀ k (h : k < L.length), w.cell? ⟨bi, oi + k, none⟩ = some (.int .i64 (L[k] : Int))) (hgood : ∀ k (h : k < L.length), L[k] < n) :
    Calls Try.prog 3 #[.slice (some ⟨b, o, none⟩) n c, .slice (some ⟨bi, oi, none⟩) L.length ci] w fun e w' => e = .returned (.bool true) ∧ Below w.heap.size w w' := by
  have h4 := bytes4 (some ⟨b, o, none⟩) n c nm (some ⟨bi, oi, none⟩) L.length ci w (by omega) (by omega) hv
  have h5 := left_any (some ⟨b, o, none⟩) n c nm (1048576 - 8 * (L.length : Int)) w (by omega) (by omega) (by omega) hv
  have h6 := named7 (some ⟨b, o, none⟩) n c nm w (by omega) hv
  have HC : Hid (∀ j, j < n → w.cell? ⟨b, o + j, none⟩ = some (.string (nm j))) := hcn
  have HI : Hid (∀ k (h : k < L.length), w.cell? ⟨bi, oi + k, none⟩ = some (.int .i64 (L[k] : Int))) := hci
  have HG : Hid (∀ k (h : k < L.length), L[k] < n) := hgood
  clear hv hcn hci hgood
  go_enter Try.func3, Try.ntmps3
  go_wp2_with fail
  refine h4.mono ?_
  rintro e w' ⟨⟨r, rfl⟩, rfl⟩
  clear h4
  cases r
  · go_wp2_with fail
    go_ret
    exact ⟨rfl, Below.refl _ _⟩
  · go_wp2_with fail
    refine h5.mono ?_
    rintro e w' ⟨⟨r, rfl, hr⟩, rfl⟩
    clear h5
    rcases hr with rfl | ⟨hr0, hr1, hr2⟩
    · go_wp2_with fail
      go_ret
      exact ⟨rfl, Below.refl _ _⟩
    · clear hr1 hr2
      go_wp2_with fail
      -- the indices are all within
      go_loop [5] (fun i => ∃ k : Nat, k ≤ L.length ∧ i = .int .i64 k) (fun i => L.length - (intOf i).toNat)
      case atStart => exact ⟨0, Nat.zero_le _, rfl⟩
      case round =>
        obtain ⟨k, hk, rfl⟩ := hrel
        by_cases hlt : k < L.length
        · have hck := HI.out k hlt
          have hgk := HG.out k hlt
          obtain ⟨x, hx⟩ : ∃ x, x = L[k] := ⟨_, rfl⟩
          rw [← hx] at hck hgk
          clear hx
          have hkn : (k : Int) < (L.length : Int) := by omega
          have hx0 : ¬ (x : Int) < 0 := by omega
          have hx1 : (x : Int) < (n : Int) := by omega
          go_wp2_with fail
          go_round
          case rel => exact ⟨k + 1, by omega, by go_num⟩
          case measure => simp [intOf]; omega
        · go_wp2_with fail
          refine h6.mono ?_
          clear h6 hlt hk
          rintro e w2 ⟨S, D, T, R, rfl, hS, hb⟩
          have hU0 : Upd w'.heap.size w2.heap.size w2 S D T R n nm (rowK nm L 0) 0 (.slice none 0 0) (firsts (L.take 0)) := by
            rw [rowK_zero]
            exact Upd.of hS (fun j hj => rfl)
          go_wp2_with fail
          -- the updates
          go_loopw [7] (fun i wr => ∃ (k : Nat) (chg : Value), k ≤ L.length ∧ i = .int .i64 k ∧ Upd w'.heap.size w2.heap.size wr S D T R n nm (rowK nm L k) 0 chg (firsts (L.take k)) ∧ Below w'.heap.size w' wr) (fun i _ => L.length - (intOf i).toNat)
          case atStart => exact ⟨0, _, Nat.zero_le _, rfl, hU0, hb⟩
          case round =>
            clear hU0 hS
            obtain ⟨k, chg, hk, rfl, hU, hbr⟩ := hrel
            by_cases hlt : k < L.length
            · have hck : wr.cell? ⟨bi, oi + k, none⟩ = some (.int .i64 (L[k] : Int)) := (hbr.cell (p := ⟨bi, oi + k, none⟩) (World.block_lt_of_cell? w' _ (HI.out k hlt))).trans (HI.out k hlt)
              have hup := count7 wr hU L[k] (cntK L k L[k]) (HG.out k hlt) hn (by have h1 := length_firsts (L.take k); have h2 : (L.take k).length ≤ L.length := List.length_take_le' k L; omega)
                (fun x hx => by
                  rw [mem_firsts] at hx
                  obtain ⟨i, hi, rfl⟩ := List.mem_iff_getElem.1 (List.mem_of_mem_take hx)
                  have := HG.out i hi
                  omega) (rowK_two nm L k L[k]) (cntK_nonneg L k L[k]) (by have := cntK_le L k L[k]; omega)
              unfold UpdPost at hup
              rw [rowK_step nm L k hlt, ← firsts_step L k hlt] at hup
              obtain ⟨x, hx⟩ : ∃ x, x = L[k] := ⟨_, rfl⟩
              rw [← hx] at hck hup
              clear hx hU
              have hkn : (k : Int) < (L.length : Int) := by omega
              go_wp2_with fail
              refine hup.mono ?_
              clear hup
              rintro e w3 ⟨rfl, ⟨chg', hU'⟩, hb3⟩
              go_wp2_with fail
              go_roundw
              case rel => exact ⟨k + 1, _, by omega, by go_num, hU', hbr.trans hb3⟩
              case measure => simp [intOf]; omega
            · obtain rfl : k = L.length := by omega
              rw [List.take_length] at hU
              have hm1 := make_ints n (by omega)
              have hm2 := make_bools n (by omega)
              have hm3 := make_cap L.length (by omega)
              go_wp2_with fail
              clear hm1 hm2 hm3 hk hlt
              obtain ⟨w5, hw5⟩ : ∃ w5 : World, w5 = wr := ⟨_, rfl⟩
              subst hw5
              have hU5 := hU
              have hb5 := hbr
              clear hU hbr
              -- the tables
              go_loopw [10, 11] (fun v i wr => ∃ k : Nat, k ≤ L.length ∧ i = .int .i64 k ∧ v = .slice (some ⟨w5.heap.size + 1 + 1, 0, none⟩) (firsts (L.take k)).length L.length ∧ CntRel w5 n L k wr) (fun _ i _ => L.length - (intOf i).toNat)
              case atStart => exact ⟨0, Nat.zero_le _, rfl, rfl, cntRel_start w5 n L (by unfold maxLen; omega)⟩
              case round =>
                obtain ⟨k, hk, rfl, rfl, hR⟩ := hrel
                by_cases hlt : k < L.length
                · have hck : wr.cell? ⟨bi, oi + k, none⟩ = some (.int .i64 (L[k] : Int)) := by
                    have h1 := HI.out k hlt
                    have h2 : Below w'.heap.size w' wr := hb5.trans (hR.below.mono hb5.size)
                    exact (h2.cell (p := ⟨bi, oi + k, none⟩) (World.block_lt_of_cell? w' _ h1)).trans h1
                  have hgk := HG.out k hlt
                  have hcnt := hR.cnt _ hgk
                  have hseen := hR.seen _ hgk
                  obtain ⟨hq1, hq2⟩ := hcnt
                  obtain ⟨hs1, hs2⟩ := hseen
                  have hc0 := cntK_nonneg L k L[k]
                  have hc1 := cntK_le L k L[k]
                  have hkn : (k : Int) < (L.length : Int) := by omega
                  have hgk' : ((L[k] : Nat) : Int) < (n : Int) := by omega
                  have hse : ∀ u, (wr.setCell ⟨w5.heap.size, L[k], none⟩ u).cell? ⟨w5.heap.size + 1, L[k], none⟩ = wr.cell? ⟨w5.heap.size + 1, L[k], none⟩ := fun u => cell_set_other _ _ _ (by intro hh; have := congrArg Addr.block hh; simp only at this; omega)
                  have hold := cntRel_old hR hlt hgk
                  have hnew := fun w1 => @cntRel_new w5 wr w1 n k L hR hlt hgk
                  have hown := hR.own
                  have hfl : (firsts (L.take k)).length + 1 ≤ L.length := by have h1 := length_firsts (L.take k); have h2 := List.length_take_le k L; omega
                  clear hR
                  cases hin : inL (L.take k) L[k]
                  · have hlen : (firsts (L.take (k + 1))).length = (firsts (L.take k)).length + 1 := by rw [firsts_new L k hlt hin]; simp
                    rw [hin] at hs1 hnew
                    have hnew' := fun w1 => hnew w1 rfl
                    have HL : Hid ((firsts (L.take (k + 1))).length = (firsts (L.take k)).length + 1) := hlen
                    clear hold hnew hin hlen
                    have hownX : ∀ u u' ob, (((wr.setCell ⟨w5.heap.size, L[k], none⟩ u).setCell ⟨w5.heap.size + 1, L[k], none⟩ u').alloc ob).ownsRow (w5.heap.size + 1 + 1) 3 1 (.slice (some ⟨w5.heap.size + 1 + 1, 0, none⟩) (firsts (L.take k)).length L.length) (firsts (L.take k)).length (intCells (firsts (L.take k))) := fun u u' ob =>
                      World.ownsRow.alloc (ownsRow_setCell_below (ownsRow_setCell_below hown (by show w5.heap.size < _; omega) u) (by show w5.heap.size + 1 < _; omega) u') ob
                    obtain ⟨i0, hi0, hz0, hz1, hz2⟩ := info_parts info3
                    go_wp2_with (at_builtin; refine wpList_append_fits _ rfl (.tmp 106) (.tmp 108) 23 rfl (w5.heap.size + 1 + 1) 3 i0 1 Try.underlying23 hi0 hz1 (w5.heap.size + 1 + 1) (firsts (L.take k)).length L.length (intCells (firsts (L.take k))) rfl (hownX _ _ _) ⟨wr.heap.size, 0, none⟩ 1 1 [.int .i64 (L[k] : Int)] rfl rfl ?c1 ?c2 hfl ?_)
                    case c1 =>
                      intro i u hu
                      match i, hu with
                      | 0, hu =>
                        simp at hu
                        subst hu
                        rw [Addr.add_mid, World.cell?_alloc_at (hn := by simp)]
                        rfl
                    case c2 => intro u hu; simp at hu; subst hu; rfl
                    intro w1 hown1 hg1
                    have hR1 := hnew' w1 hown1 hg1
                    clear hnew' hown1 hg1 hownX hown
                    go_wp2_with fail
                    go_roundw
                    case rel => exact ⟨k + 1, by omega, by go_num, by rw [HL.out], hR1⟩
                    case measure => simp [intOf]; omega
                  · have hlen : (firsts (L.take (k + 1))).length = (firsts (L.take k)).length := by rw [firsts_old L k hlt hin]
                    rw [hin] at hs1 hold
                    have hold' := hold rfl
                    have HL : Hid ((firsts (L.take (k + 1))).length = (firsts (L.take k)).length) := hlen
                    clear hold hnew hin hown hlen
                    go_wp2_with fail
                    go_roundw
                    case rel =>
                      exact ⟨k + 1, by omega, by go_num, by rw [HL.out], hold'⟩
                    case measure => simp [intOf]; omega
                · obtain rfl : k = L.length := by omega
                  rw [List.take_length]
                  obtain ⟨w6, hw6⟩ : ∃ w6 : World, w6 = wr := ⟨_, rfl⟩
                  subst hw6
                  have hU6 := hU5.below hR.below
                  have hb6 : Below w'.heap.size w' w6 := hb5.trans (hR.below.mono hb5.size)
                  have hst := steps8 w6 hU6
                  have hch := changed9 w6 hU6
                  go_wp2_with fail
                  refine hst.mono ?_
                  clear hst hlt hk
                  rintro e w7 ⟨rfl, rfl⟩
                  go_wp2_with fail
                  go_loopw [14] (fun i wr => ∃ k : Nat, k ≤ n ∧ i = .int .i64 k ∧ Below w7.heap.size w7 wr) (fun i _ => n - (intOf i).toNat)
                  case atStart => exact ⟨0, Nat.zero_le _, rfl, Below.refl _ _⟩
                  case round =>
                    obtain ⟨k, hk, rfl, hbr⟩ := hrel
                    by_cases hlt : k < n
                    · have hlw : ∀ ob, Below w7.heap.size w7 (wr.alloc ob) := fun ob => hbr.trans (((Below.refl _ wr).alloc (Nat.le_refl _) ob).mono hbr.size)
                      have hck : wr.cell? ⟨b, o + k, none⟩ = some (.string (nm k)) := by
                        have h1 := HC.out k hlt
                        have h2 : Below w'.heap.size w' wr := hb6.trans (hbr.mono hb6.size)
                        exact (h2.cell (p := ⟨b, o + k, none⟩) (World.block_lt_of_cell? w' _ h1)).trans h1
                      have hsz := hR.size
                      have hcn : wr.cell? ⟨w5.heap.size, k, none⟩ = some (.int .i64 (cntK L L.length k)) := (hbr.cell (p := ⟨w5.heap.size, k, none⟩) (by show w5.heap.size < _; omega)).trans (hR.cnt k hlt).1
                      have hz1 : b < wr.heap.size := World.block_lt_of_cell? wr _ hck
                      have hz2 : w5.heap.size < wr.heap.size := World.block_lt_of_cell? wr _ hcn
                      have hcl : ∀ (ob : Obj) (p : Addr), p.block < wr.heap.size → (wr.alloc ob).cell? p = wr.cell? p := fun ob p hp => World.cell?_alloc_lt _ _ _ hp
                      have hrow := fun ob => five_cellsK ((hU6.below (hlw ob)).steps k hlt)
                      obtain ⟨q0, q1, q2, q3, q4⟩ : (∀ ob, (wr.alloc ob).cell? ⟨T, k * 5, none⟩ = some (.string (nm k))) ∧ (∀ ob, (wr.alloc ob).cell? ⟨T, k * 5 + 1, none⟩ = some (.string ⟨#[78, 79, 84, 95, 82, 85, 78]⟩)) ∧ (∀ ob, (wr.alloc ob).cell? ⟨T, k * 5 + 2, none⟩ = some (.int .i64 (cntK L L.length k))) ∧
                          (∀ ob, (wr.alloc ob).cell? ⟨T, k * 5 + 3, none⟩ = some (.string ⟨#[78, 79, 84, 95, 78, 69, 69, 68, 69, 68]⟩)) ∧ (∀ ob, (wr.alloc ob).cell? ⟨T, k * 5 + 4, none⟩ = some (.int .i64 0)) :=
                        ⟨fun ob => (hrow ob).1, fun ob => (hrow ob).2.1, fun ob => (hrow ob).2.2.1, fun ob => (hrow ob).2.2.2.1, fun ob => (hrow ob).2.2.2.2⟩
                      clear hrow
                      have hkn : (k : Int) < (n : Int) := by omega
                      go_wp2_with fail
                      go_region
                      go_wp2_with fail
                      go_quiet (fail)
                      go_wp2_with fail
                      go_roundw
                      case rel => exact ⟨k + 1, by omega, by go_num, below_drewN (hlw _) _⟩
                      case measure => simp [intOf]; omega
                    · have hU8 := hU6.below hbr
                      have hch := changed9 wr hU8
                      have hb8 : Below w'.heap.size w' wr := hb6.trans (hbr.mono hb6.size)
                      have hord : wr.ownsRow (w5.heap.size + 1 + 1) 3 1 (.slice (some ⟨w5.heap.size + 1 + 1, 0, none⟩) (firsts L).length L.length) (firsts L).length (intCells (firsts L)) := by
                        have h1 := hR.own
                        rw [List.take_length] at h1
                        exact ownsRow_blocks h1 (fun i _ hi => hbr.block i hi)
                      have hown := hU8.own
                      clear hR hU5 hU6 hU8 hb5 hb6 hbr
                      obtain ⟨w9, hw9⟩ : ∃ w9 : World, w9 = wr := ⟨_, rfl⟩
                      subst hw9
                      have hF : (firsts L).length ≤ 4096 := by have := length_firsts L; omega
                      rcases hown.2 with ⟨rfl, hnil⟩ | ⟨g, cap, cur, rfl, _⟩
                      · go_wp2_with fail
                        refine hch.mono ?_
                        clear hch
                        rintro e w10 ⟨rfl, rfl⟩
                        go_wp2_with fail
                        go_loop [17] (fun i => ∃ k : Nat, k ≤ (firsts L).length ∧ i = .int .i64 k) (fun i => (firsts L).length - (intOf i).toNat)
                        case atStart => exact ⟨0, Nat.zero_le _, rfl⟩
                        case round =>
                          obtain ⟨k, hk, rfl⟩ := hrel
                          have hlt : ¬ k < (firsts L).length := by omega
                          go_wp2_with fail
                          go_ret
                          exact ⟨rfl, hb8⟩
                      · go_wp2_with fail
                        refine hch.mono ?_
                        clear hch
                        rintro e w10 ⟨rfl, rfl⟩
                        go_wp2_with fail
                        go_loopw [17] (fun i wr => ∃ k : Nat, k ≤ (firsts L).length ∧ i = .int .i64 k ∧ ∃ q, wr = w10.drewN q) (fun i _ => (firsts L).length - (intOf i).toNat)
                        case atStart => exact ⟨0, Nat.zero_le _, rfl, 0, rfl⟩
                        case round =>
                          obtain ⟨k, hk, rfl, q, rfl⟩ := hrel
                          by_cases hlt : k < (firsts L).length
                          · have hc1 : w10.cell? ⟨g, k, none⟩ = some (.int .i64 ((firsts L)[k] : Int)) := by
                              rw [hown.cellAt k (by omega)]; simp [intCells, hlt]
                            have hc2 : w10.cell? ⟨w5.heap.size + 1 + 1, k, none⟩ = some (.int .i64 ((firsts L)[k] : Int)) := by
                              rw [hord.cellAt k (by omega)]; simp [intCells, hlt]
                            have hkn : (k : Int) < ((firsts L).length : Int) := by omega
                            go_wp2_with fail
                            go_quiet (fail)
                            go_wp2_with fail
                            go_roundw
                            case rel => exact ⟨k + 1, by omega, by go_num, _, rfl⟩
                            case measure => simp [intOf]; omega
                          · go_wp2_with fail
                            go_ret
                            exact ⟨rfl, below_drewN hb8 _⟩
end Go.Proofs.Qxb6615011a
