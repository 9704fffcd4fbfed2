/- The walk of 'FnUpdateStepLastActionWinsAndStatusesAgree'. -/
import Derived.Test.Qxb6615011aDoorSmall
import Derived.Test.Qxb6615011aDoorBytes
import Derived.Deep.QuietTactic
import Derived.BigQuiet
import Derived.WalkSmall
import Derived.Deep.RegionHeld3
namespace Go.Proofs.Qxb6615011aDoor
open Go.ChangeShapes Go.WideShapes Go.ChangeAt Go.RowKit
set_option linter.unusedVariables false
set_option maxRecDepth 100000

/-- The n numbers ix lie in the slice whose address is ad. -/
def IntsAt (w : World) (ad : Option Addr) (n : Nat) (ix : Nat → Int) : Prop :=
  n = 0 ∨ ∃ b o, ad = some ⟨b, o, none⟩ ∧ ∀ j, j < n → w.cell? ⟨b, o + j, none⟩ = some (.int .i64 (ix j))

theorem strs_one {w : World} {ad : Option Addr} {n : Nat} {nm : Nat → ByteArray} (h : StrsAt w ad n nm) (j : Nat) (hj : j < n) : ∃ b o, ad = some ⟨b, o, none⟩ ∧ w.cell? ⟨b, o + j, none⟩ = some (.string (nm j)) := by
  rcases h.1 with h0 | ⟨b, o, e, hc⟩
  · omega
  · exact ⟨b, o, e, hc j hj⟩
theorem ints_one {w : World} {ad : Option Addr} {n : Nat} {ix : Nat → Int} (h : IntsAt w ad n ix) (j : Nat) (hj : j < n) : ∃ b o, ad = some ⟨b, o, none⟩ ∧ w.cell? ⟨b, o + j, none⟩ = some (.int .i64 (ix j)) := by
  rcases h with h0 | ⟨b, o, e, hc⟩
  · omega
  · exact ⟨b, o, e, hc j hj⟩

theorem list_of (K n : Nat) (ix : Nat → Int) (h : ∀ j, j < K → 0 ≤ ix j ∧ ix j < n) : ∃ L : List Nat, L.length = K ∧ ∀ k (hk : k < L.length), ix k = (L[k] : Int) ∧ L[k] < n := by
  refine ⟨(List.range K).map (fun j => (ix j).toNat), by simp, fun k hk => ?_⟩
  simp at hk
  have := h k hk
  simp
  omega

theorem cell_kept {B : Nat} {w w' : World} {p : Addr} {v : Value} (hb : Below B w w') (hB : w.heap.size ≤ B) (h : w.cell? p = some v) : w'.cell? p = some v :=
  (hb.cell (p := p) (Nat.lt_of_lt_of_le (World.block_lt_of_cell? w _ h) hB)).trans h

/-- the world wz is w, with more behind it -/
def HB (w wz : World) : Prop := Below w.heap.size w wz

theorem five_cellsA {w : World} {b o : Nat} {nm : Nat → ByteArray} {L : List Nat} {ac : Nat → ByteArray} {k j : Nat} (h : w.rangeAt b o (rowA nm L ac k j)) : w.cell? ⟨b, o, none⟩ = some (.string (nm j)) ∧ w.cell? ⟨b, o + 1, none⟩ = some (.string (lastA L ac k j)) ∧ w.cell? ⟨b, o + 2, none⟩ = some (.int .i64 0) ∧
    w.cell? ⟨b, o + 3, none⟩ = some (.string ⟨#[78, 79, 84, 95, 78, 69, 69, 68, 69, 68]⟩) ∧ w.cell? ⟨b, o + 4, none⟩ = some (.int .i64 0) :=
  ⟨h 0 _ rfl, h 1 _ rfl, h 2 _ rfl, h 3 _ rfl, h 4 _ rfl⟩

set_option maxHeartbeats 400000 in
theorem last_off (ad : Option Addr) (n c : Nat) (nm : Nat → ByteArray) (ai : Option Addr) (ni ci : Nat) (aa : Option Addr) (na ca : Nat) (ac : Nat → ByteArray) (w : World)
    (hn : n ≤ 8796093022207) (hi : ni ≤ 17592186044415) (ha : na ≤ 8796093022207) (hv : StrsAt w ad n nm) (hva : StrsAt w aa na ac) (ho : 4096 < ni ∨ 65536 < n) :
    Calls Tryd.prog 4 #[.slice ad n c, .slice ai ni ci, .slice aa na ca] w fun e w' => e = .returned (.bool true) ∧ Below w.heap.size w w' := by
  have h4 := bytes11 ad n c nm ai ni ci aa na ca ac w hn hi ha hv hva
  clear hv hva
  by_cases h1 : 4096 < ni
  · go_enter Tryd.func4, Tryd.ntmps4
    go_wp2_with fail
    refine h4.mono ?_
    rintro e w' ⟨⟨r, rfl⟩, rfl⟩
    clear h4
    cases r
    all_goals
      go_wp2_with fail
      go_ret
      exact ⟨rfl, Below.refl _ _⟩
  · have h2 : 65536 < n := by omega
    go_enter Tryd.func4, Tryd.ntmps4
    go_wp2_with fail
    refine h4.mono ?_
    rintro e w' ⟨⟨r, rfl⟩, rfl⟩
    clear h4
    cases r
    all_goals
      go_wp2_with fail
      go_ret
      exact ⟨rfl, Below.refl _ _⟩

set_option maxHeartbeats 4000000 in
theorem last_short (ad : Option Addr) (n c : Nat) (nm : Nat → ByteArray) (ai : Option Addr) (ni ci : Nat) (ix : Nat → Int) (aa : Option Addr) (na ca : Nat) (ac : Nat → ByteArray) (w : World)
    (hn : n ≤ 65536) (hi : ni ≤ 4096) (ha : na ≤ 8796093022207) (hv : StrsAt w ad n nm) (hvi : IntsAt w ai ni ix) (hva : StrsAt w aa na ac) (ht : TabIn w) (hcase : na < ni) :
    Calls Tryd.prog 4 #[.slice ad n c, .slice ai ni ci, .slice aa na ca] w fun e w' => e = .returned (.bool true) ∧ Below w.heap.size w w' := by
  have h11 := bytes11 ad n c nm ai ni ci aa na ca ac w (by omega) (by omega) ha hv hva
  have h6 := left_any ad n c nm (1048576 - 8 * (ni : Int)) w (by omega) (by omega) (by omega) hv
  have H6 : Hid (∀ (z : Int), z ≤ 1048576 → -1048576 ≤ z → Calls Tryd.prog 6 #[.slice aa na ca, .int .i64 z] w fun e w' => (∃ r : Int, e = .returned (.int .i64 r) ∧ (r = -1 ∨ (0 ≤ r ∧ r ≤ z ∧ 8 * (na : Int) ≤ z))) ∧ w' = w) := fun z h h' => left_any aa na ca ac z w ha h h' hva
  have h7 := named7 ad n c nm w (by omega) hv
  have HC : Hid (∀ j, j < n → ∃ b o, ad = some ⟨b, o, none⟩ ∧ w.cell? ⟨b, o + j, none⟩ = some (.string (nm j))) := fun j hj => strs_one hv j hj
  have HA : Hid (∀ j, j < na → ∃ b o, aa = some ⟨b, o, none⟩ ∧ w.cell? ⟨b, o + j, none⟩ = some (.string (ac j))) := fun j hj => strs_one hva j hj
  have HX : Hid (∀ j, j < ni → ∃ b o, ai = some ⟨b, o, none⟩ ∧ w.cell? ⟨b, o + j, none⟩ = some (.int .i64 (ix j))) := fun j hj => ints_one hvi j hj
  have HT : Hid (TabIn w) := ht
  clear hv hvi hva ht
  go_enter Tryd.func4, Tryd.ntmps4
  go_wp2_with fail
  refine h11.mono ?_
  rintro e w' ⟨⟨r, rfl⟩, rfl⟩
  clear h11
  cases r
  · go_wp2_with fail
    go_ret
    exact ⟨rfl, Below.refl _ _⟩
  go_wp2_with fail
  refine h6.mono ?_
  rintro e w' ⟨⟨r, rfl, hr⟩, rfl⟩
  clear h6
  rcases hr with rfl | ⟨hr0, hr1, hr2⟩
  · go_wp2_with fail
    go_ret
    exact ⟨rfl, Below.refl _ _⟩
  have hr1' : r ≤ 1048576 := by omega
  clear hr1 hr2
  go_wp2_with fail
  refine (H6.out r hr1' (by omega)).mono ?_
  rintro e w' ⟨⟨r2, rfl, hr⟩, rfl⟩
  clear H6
  rcases hr with rfl | ⟨hr3, hr1, hr2⟩
  · go_wp2_with fail
    go_ret
    exact ⟨rfl, Below.refl _ _⟩
  clear hr1 hr2
  have hcase' : (na : Int) < (ni : Int) := by omega
  go_wp2_with fail
  -- the indices are all within
  go_loop [9] (fun i => ∃ k : Nat, k ≤ na ∧ i = .int .i64 k ∧ ∀ j, j < k → 0 ≤ ix j ∧ ix j < n) (fun i => na - (intOf i).toNat)
  case atStart => exact ⟨0, Nat.zero_le _, rfl, fun j hj => absurd hj (by omega)⟩
  case round =>
    obtain ⟨k, hk, rfl, hgood⟩ := hrel
    have HG : Hid (∀ j, j < k → 0 ≤ ix j ∧ ix j < n) := hgood
    clear hgood
    by_cases hlt : k < na
    · obtain ⟨bi, oi, rfl, hck⟩ := HX.out k (by omega)
      obtain ⟨x, hx⟩ : ∃ x, x = ix k := ⟨_, rfl⟩
      rw [← hx] at hck
      have HX' : Hid (x = ix k) := hx
      clear hx h7
      have hkn : (k : Int) < (ni : Int) := by omega
      by_cases hb1 : x < 0
      · go_wp2_with fail
        go_ret
        exact ⟨rfl, Below.refl _ _⟩
      · by_cases hb2 : x < n
        · go_wp2_with fail
          go_round
          case rel => exact ⟨k + 1, by omega, by go_num, fun j hj => by
            by_cases e : j = k
            · subst e; rw [← HX'.out]; omega
            · exact HG.out j (by omega)⟩
          case measure => simp [intOf]; omega
        · go_wp2_with fail
          go_ret
          exact ⟨rfl, Below.refl _ _⟩
    obtain rfl : k = na := by omega
    obtain ⟨L, rfl, hL⟩ := list_of _ n ix HG.out
    have HI : Hid (∀ k (h : k < L.length), ∃ b o, ai = some ⟨b, o, none⟩ ∧ w'.cell? ⟨b, o + k, none⟩ = some (.int .i64 (L[k] : Int))) := fun k h => by rw [← (hL k h).1]; exact HX.out k (by omega)
    have HG' : Hid (∀ k (h : k < L.length), L[k] < n) := fun k h => (hL k h).2
    clear HG HX hL
    go_wp2_with fail
    refine h7.mono ?_
    clear h7 hlt hk
    rintro e w2 ⟨S, D, T, R, rfl, hS, hb⟩
    have hU0 : Upd w'.heap.size w2.heap.size w2 S D T R n nm (rowA nm L ac 0) 0 (.slice none 0 0) (firsts (L.take 0)) := by
      rw [rowA_zero]
      exact Upd.of hS (fun j hj => rfl)
    go_wp2_with fail
    -- the updates
    go_loopw [11] (fun i wr => ∃ (k : Nat) (chg : Value), k ≤ L.length ∧ i = .int .i64 k ∧ Upd w'.heap.size w2.heap.size wr S D T R n nm (rowA nm L ac k) 0 chg (firsts (L.take k)) ∧ Below w'.heap.size w' wr) (fun i _ => L.length - (intOf i).toNat)
    case atStart => exact ⟨0, _, Nat.zero_le _, rfl, hU0, hb⟩
    case round =>
      clear hU0 hS
      obtain ⟨k, chg, hk, rfl, hU, hbr⟩ := hrel
      by_cases hlt : k < L.length
      · obtain ⟨bi, oi, rfl, hi0⟩ := HI.out k hlt
        obtain ⟨ba, oa, rfl, ha0⟩ := HA.out k (by omega)
        have hck : wr.cell? ⟨bi, oi + k, none⟩ = some (.int .i64 (L[k] : Int)) := cell_kept hbr (Nat.le_refl _) hi0
        have hca : wr.cell? ⟨ba, oa + k, none⟩ = some (.string (ac k)) := cell_kept hbr (Nat.le_refl _) ha0
        have hup := action12 wr.drew (hU.below (Below.refl _ _).drew) L[k] (ac k) (lastA L ac k L[k]) (HG'.out k hlt) hn (by have h1 := length_firsts (L.take k); have h2 : (L.take k).length ≤ L.length := List.length_take_le' k L; omega)
          (fun x hx => by
            rw [mem_firsts] at hx
            obtain ⟨i, hi, rfl⟩ := List.mem_iff_getElem.1 (List.mem_of_mem_take hx)
            have := HG'.out i hi
            omega) (rowA_one nm L ac k L[k])
        unfold UpdPost at hup
        rw [rowA_step nm L ac k hlt, ← firsts_step L k hlt] at hup
        obtain ⟨x, hx⟩ : ∃ x, x = L[k] := ⟨_, rfl⟩
        rw [← hx] at hck hup hi0
        clear hx hU
        have hd1 : wr.drew.cell? ⟨bi, oi + k, none⟩ = some (.int .i64 (x : Int)) := by simpa using hck
        have hd2 : wr.drew.cell? ⟨ba, oa + k, none⟩ = some (.string (ac k)) := by simpa using hca
        have hbd : Below w'.heap.size w' wr.drew := hbr.drew
        have hkn : (k : Int) < (L.length : Int) := by omega
        have hkn' : (k : Int) < (ni : Int) := by omega
        have hlw := Nat.le_refl wr.heap.size
        go_wp2_with fail
        go_region_held3 (fun w' => w'.cell? ⟨bi, oi + k, none⟩ = some (.int .i64 (x : Int)) ∧ w'.cell? ⟨ba, oa + k, none⟩ = some (.string (ac k))) (first | exact ⟨hd1, hd2⟩ | exact ⟨k1, k2⟩)
          ((go_at_call 12; refine hup.mono ?_; rintro e w3 ⟨rfl, ⟨chg', hU'⟩, hb3⟩; have k1 := cell_kept (hbd.trans hb3) (Nat.le_refl _) hi0; have k2 := cell_kept (hbd.trans hb3) (Nat.le_refl _) ha0))
        go_wp2_with fail
        go_roundw
        case rel => exact ⟨k + 1, _, by omega, by go_num, hU', hbr.drew.trans hb3⟩
        case measure => simp [intOf]; omega
      obtain rfl : k = L.length := by omega
      rw [List.take_length] at hU
      have hm1 := make_strs n (by omega)
      have hm2 := make_bools n (by omega)
      go_wp2_with fail
      clear hm1 hm2 hk hlt
      obtain ⟨w5, hw5⟩ : ∃ w5 : World, w5 = wr := ⟨_, rfl⟩
      subst hw5
      have hU5 := hU
      have hb5 := hbr
      clear hU hbr
      -- the table of last actions is laid
      go_loopw [15] (fun i wr => ∃ k : Nat, k ≤ n ∧ i = .int .i64 k ∧ TwoTabs w5 n (laidTo k) (fun _ => false) wr) (fun i _ => n - (intOf i).toNat)
      case atStart => exact ⟨0, Nat.zero_le _, rfl, twoTabs_start w5 n⟩
      case round =>
        obtain ⟨k, hk, rfl, hR⟩ := hrel
        by_cases hlt : k < n
        · obtain ⟨hf1, hf2⟩ := hR.fin k hlt
          have hnext := hR.setFin hlt nrS (laidTo_step k)
          clear hR
          have hkn : (k : Int) < (n : Int) := by omega
          go_wp2_with fail
          go_roundw
          case rel => exact ⟨k + 1, by omega, by go_num, hnext⟩
          case measure => simp [intOf]; omega
        obtain rfl : n = k := by omega
        have hR0 : TwoTabs w5 n (lastA L ac 0) (fun j => inL (L.take 0) j) wr := hR.same (fun j hj => laidTo_all n j hj L ac) (fun j hj => by simp [inL])
        clear hR hk hlt
        go_wp2_with fail
        -- the last actions
        go_loopw [14, 16] (fun d i wr => ∃ k : Nat, k ≤ L.length ∧ i = .int .i64 k ∧ d = .int .i64 ((firsts (L.take k)).length : Nat) ∧ TwoTabs w5 n (lastA L ac k) (fun j => inL (L.take k) j) wr) (fun _ i _ => L.length - (intOf i).toNat)
        case atStart => exact ⟨0, Nat.zero_le _, rfl, rfl, hR0⟩
        case round =>
          clear hR0
          obtain ⟨k, hk, rfl, rfl, hR⟩ := hrel
          by_cases hlt : k < L.length
          · obtain ⟨bi, oi, rfl, hi0⟩ := HI.out k hlt
            obtain ⟨ba, oa, rfl, ha0⟩ := HA.out k (by omega)
            have hbr : Below w'.heap.size w' wr := hb5.trans (hR.below.mono hb5.size)
            have hck : wr.cell? ⟨bi, oi + k, none⟩ = some (.int .i64 (L[k] : Int)) := cell_kept hbr (Nat.le_refl _) hi0
            have hca : wr.cell? ⟨ba, oa + k, none⟩ = some (.string (ac k)) := cell_kept hbr (Nat.le_refl _) ha0
            have hgk := HG'.out k hlt
            obtain ⟨hf1, hf2⟩ := hR.fin _ hgk
            obtain ⟨hs1, hs2⟩ := hR.seen _ hgk
            have hkn : (k : Int) < (L.length : Int) := by omega
            have hkn' : (k : Int) < (ni : Int) := by omega
            have hgk' : ((L[k] : Nat) : Int) < (n : Int) := by omega
            have hse : ∀ u, (wr.setCell ⟨w5.heap.size, L[k], none⟩ u).cell? ⟨w5.heap.size + 1, L[k], none⟩ = wr.cell? ⟨w5.heap.size + 1, L[k], none⟩ := fun u => cell_set_other _ _ _ (by intro hh; have := congrArg Addr.block hh; simp only at this; omega)
            have hF := hR.setFin hgk (ac k) (f' := lastA L ac (k + 1)) (fun j => lastA_step L ac k j hlt)
            have hfl : (firsts (L.take k)).length + 1 ≤ L.length := by have h1 := length_firsts (L.take k); have h2 := List.length_take_le k L; omega
            clear hR hi0 ha0
            cases hin : inL (L.take k) L[k]
            · have hlen : (firsts (L.take (k + 1))).length = (firsts (L.take k)).length + 1 := by rw [firsts_new L k hlt hin]; simp
              have hG := hF.setSeen hgk (g' := fun j => inL (L.take (k + 1)) j) (fun j => inL_step' L k j hlt)
              have HL : Hid ((firsts (L.take (k + 1))).length = (firsts (L.take k)).length + 1) := hlen
              rw [hin] at hs1
              clear hin hlen hF
              go_wp2_with fail
              go_roundw
              case rel => exact ⟨k + 1, by omega, by go_num, by rw [HL.out]; go_num, hG⟩
              case measure => simp [intOf]; omega
            · have hlen : (firsts (L.take (k + 1))).length = (firsts (L.take k)).length := by rw [firsts_old L k hlt hin]
              have hG := hF.same (f' := lastA L ac (k + 1)) (g' := fun j => inL (L.take (k + 1)) j) (fun j hj => rfl) (fun j hj => by
                show inL (L.take (k + 1)) j = inL (L.take k) j
                rw [inL_step' L k j hlt]
                by_cases e : j = L[k]
                · rw [if_pos e, e, hin]
                · rw [if_neg e])
              have HL : Hid ((firsts (L.take (k + 1))).length = (firsts (L.take k)).length) := hlen
              rw [hin] at hs1
              clear hin hlen hF
              go_wp2_with fail
              go_roundw
              case rel => exact ⟨k + 1, by omega, by go_num, by rw [HL.out], hG⟩
              case measure => simp [intOf]; omega
          obtain rfl : k = L.length := by omega
          rw [List.take_length] at hR ⊢
          obtain ⟨w6, hw6⟩ : ∃ w6 : World, w6 = wr := ⟨_, rfl⟩
          subst hw6
          have hU6 := hU5.below hR.below
          have hb6 : Below w'.heap.size w' w6 := hb5.trans (hR.below.mono hb5.size)
          have hst := steps8 w6 hU6.saga
          go_wp2_with fail
          refine hst.mono ?_
          clear hst hlt hk
          rintro e w7 ⟨rfl, rfl⟩
          go_wp2_with fail
          go_loopw [19] (fun i wr => ∃ k : Nat, k ≤ n ∧ i = .int .i64 k ∧ HB w7 wr) (fun i _ => n - (intOf i).toNat)
          case atStart => exact ⟨0, Nat.zero_le _, rfl, Below.refl _ _⟩
          case round =>
            obtain ⟨k, hk, rfl, hbr⟩ := hrel
            by_cases hlt : k < n
            · obtain ⟨b, o, rfl, hc0⟩ := HC.out k hlt
              obtain ⟨A, hA⟩ : ∃ A, A = lastA L ac L.length k := ⟨_, rfl⟩
              have hsz := hR.size
              have hfin7 : w7.cell? ⟨w5.heap.size, k, none⟩ = some (.string A) := by rw [hA]; exact (hR.fin k hlt).1
              have hall : ∀ wz, HB w7 wz → HB w7 wz ∧ wz.cell? ⟨T, k * 5, none⟩ = some (.string (nm k)) ∧ wz.cell? ⟨T, k * 5 + 1, none⟩ = some (.string A) ∧ wz.cell? ⟨T, k * 5 + 2, none⟩ = some (.int .i64 0) ∧
                  wz.cell? ⟨T, k * 5 + 3, none⟩ = some (.string ⟨#[78, 79, 84, 95, 78, 69, 69, 68, 69, 68]⟩) ∧ wz.cell? ⟨T, k * 5 + 4, none⟩ = some (.int .i64 0) ∧ wz.cell? ⟨w5.heap.size, k, none⟩ = some (.string A) := fun wz hz => by
                obtain ⟨q0, q1, q2, q3, q4⟩ := five_cellsA ((hU6.below hz).steps k hlt)
                rw [← hA] at q1
                exact ⟨hz, q0, q1, q2, q3, q4, cell_kept hz (Nat.le_refl _) hfin7⟩
              have h9 : ∀ wz, HB w7 wz → Calls Tryd.prog 9 #[.pointer (some ⟨S, 0, none⟩), .int .i64 k, .agg #[.string (nm k), .string A, .int .i64 0, .string ⟨#[78, 79, 84, 95, 78, 69, 69, 68, 69, 68]⟩, .int .i64 0]] wz
                  fun e w' => e = .returned (.bool (isAct A.toList)) ∧ HB w7 w' := fun wz hz => by
                refine (fits9 wz (hU6.below hz).saga (HT.out.below (hb6.trans (Below.mono hz hb6.size))) k hlt (by omega) (nm k) A ⟨#[78, 79, 84, 95, 78, 69, 69, 68, 69, 68]⟩ 0 0).mono ?_
                rintro e w4 ⟨rfl, hb4⟩
                exact ⟨by simp, Below.trans hz (hb4.mono (Below.size hz))⟩
              have H9 : Hid (∀ wz, HB w7 wz → Calls Tryd.prog 9 #[.pointer (some ⟨S, 0, none⟩), .int .i64 k, .agg #[.string (nm k), .string A, .int .i64 0, .string ⟨#[78, 79, 84, 95, 78, 69, 69, 68, 69, 68]⟩, .int .i64 0]] wz
                  fun e w' => e = .returned (.bool (isAct A.toList)) ∧ HB w7 w') := h9
              clear hA h9 hfin7
              have hB0 : ∀ ob q, HB w7 ((wr.alloc ob).drewN q) := fun ob q => below_drewN (Below.trans hbr (((Below.refl _ wr).alloc (Nat.le_refl _) ob).mono (Below.size hbr))) q
              have hB1 : ∀ ob q, HB w7 ((wr.alloc ob).drew.drewN q).drew := fun ob q => Below.drew (below_drewN (Below.drew (Below.trans hbr (((Below.refl _ wr).alloc (Nat.le_refl _) ob).mono (Below.size hbr)))) q)
              have hck : wr.cell? ⟨b, o + k, none⟩ = some (.string (nm k)) := cell_kept (hb6.trans (Below.mono hbr hb6.size)) (Nat.le_refl _) hc0
              have hcn : wr.cell? ⟨w5.heap.size, k, none⟩ = some (.string A) := (hall wr hbr).2.2.2.2.2.2
              have hz1 : b < wr.heap.size := World.block_lt_of_cell? wr _ hck
              have hz2 : w5.heap.size < wr.heap.size := World.block_lt_of_cell? wr _ hcn
              have hcl : ∀ (ob : Obj) (p : Addr), p.block < wr.heap.size → (wr.alloc ob).cell? p = wr.cell? p := fun ob p hp => World.cell?_alloc_lt _ _ _ hp
              have hrow := fun ob => hall (wr.alloc ob) (Below.trans hbr (((Below.refl _ wr).alloc (Nat.le_refl _) ob).mono (Below.size hbr)))
              obtain ⟨q0, q1, q2, q3, q4⟩ : (∀ ob, (wr.alloc ob).cell? ⟨T, k * 5, none⟩ = some (.string (nm k))) ∧ (∀ ob, (wr.alloc ob).cell? ⟨T, k * 5 + 1, none⟩ = some (.string A)) ∧ (∀ ob, (wr.alloc ob).cell? ⟨T, k * 5 + 2, none⟩ = some (.int .i64 0)) ∧
                  (∀ ob, (wr.alloc ob).cell? ⟨T, k * 5 + 3, none⟩ = some (.string ⟨#[78, 79, 84, 95, 78, 69, 69, 68, 69, 68]⟩)) ∧ (∀ ob, (wr.alloc ob).cell? ⟨T, k * 5 + 4, none⟩ = some (.int .i64 0)) :=
                ⟨fun ob => (hrow ob).2.1, fun ob => (hrow ob).2.2.1, fun ob => (hrow ob).2.2.2.1, fun ob => (hrow ob).2.2.2.2.1, fun ob => (hrow ob).2.2.2.2.2.1⟩
              have HALL : Hid (∀ wz, HB w7 wz → HB w7 wz ∧ wz.cell? ⟨T, k * 5, none⟩ = some (.string (nm k)) ∧ wz.cell? ⟨T, k * 5 + 1, none⟩ = some (.string A) ∧ wz.cell? ⟨T, k * 5 + 2, none⟩ = some (.int .i64 0) ∧
                  wz.cell? ⟨T, k * 5 + 3, none⟩ = some (.string ⟨#[78, 79, 84, 95, 78, 69, 69, 68, 69, 68]⟩) ∧ wz.cell? ⟨T, k * 5 + 4, none⟩ = some (.int .i64 0) ∧ wz.cell? ⟨w5.heap.size, k, none⟩ = some (.string A)) := hall
              have HB0 : Hid (∀ ob q, HB w7 ((wr.alloc ob).drewN q)) := hB0
              have HB1 : Hid (∀ ob q, HB w7 ((wr.alloc ob).drew.drewN q).drew) := hB1
              clear hrow hall hB0 hB1
              have hkn : (k : Int) < (n : Int) := by omega
              go_wp2_with fail
              go_region
              go_wp2_with fail
              go_quiet (fail)
              go_wp2_with fail
              clear q0 q1 q2 q3 q4 hcl hck hcn
              go_region_held3 (fun wz => HB w7 wz ∧ wz.cell? ⟨T, k * 5, none⟩ = some (.string (nm k)) ∧ wz.cell? ⟨T, k * 5 + 1, none⟩ = some (.string A) ∧ wz.cell? ⟨T, k * 5 + 2, none⟩ = some (.int .i64 0) ∧
                  wz.cell? ⟨T, k * 5 + 3, none⟩ = some (.string ⟨#[78, 79, 84, 95, 78, 69, 69, 68, 69, 68]⟩) ∧ wz.cell? ⟨T, k * 5 + 4, none⟩ = some (.int .i64 0) ∧ wz.cell? ⟨w5.heap.size, k, none⟩ = some (.string A)) (exact HALL.out _ (by first | assumption | exact HB1.out _ _ | exact HB0.out _ _))
                (first
                  | (go_at_call 9; refine (H9.out _ ?_).mono ?_; (first | exact HB0.out _ _ | exact HB1.out _ _ | exact (‹HB w7 _ ∧ _›).1 | assumption); rintro e w4 ⟨rfl, hb4⟩)
                  | (go_at_call 10; refine (isAct10 _ _).mono ?_; rintro e w4 ⟨rfl, rfl⟩))
              all_goals
                go_wp2_with fail
                obtain ⟨hB4, q0, q1, q2, q3, q4, q5⟩ := HALL.out w4 hb4
                go_quiet ((first | (go_at_call 13; exact Calls.quiet_of_same (may13 _ _)) | (go_at_call 14; exact Calls.quiet_of_same (may14 _ _))))
                go_wp2_with fail
                go_roundw
                case rel => exact ⟨k + 1, by omega, by go_num, below_drewN hB4 _⟩
                case measure => simp [intOf]; omega
            obtain rfl : n = k := by omega
            clear hk hlt
            obtain ⟨w9, hw9⟩ : ∃ w9 : World, w9 = wr := ⟨_, rfl⟩
            subst hw9
            have hU8 := hU6.below hbr
            have hch := changed15 w9 hU8
            have hb8 : Below w'.heap.size w' w9 := hb6.trans (Below.mono hbr hb6.size)
            have hown := hU8.own
            obtain ⟨ga, gc, rfl, hg⟩ : ∃ ga gc, chg = .slice ga (firsts L).length gc ∧ ∀ k (h : k < (firsts L).length), ∃ g, ga = some ⟨g, 0, none⟩ ∧ w9.cell? ⟨g, k, none⟩ = some (.int .i64 ((firsts L)[k] : Int)) := by
              rcases hown.2 with ⟨e, hnil⟩ | ⟨g, cap, cur, e, _⟩
              · refine ⟨none, 0, by rw [e, hnil], fun k h => absurd h (by omega)⟩
              · refine ⟨_, cap, e, fun k h => ⟨g, rfl, ?_⟩⟩
                subst e
                rw [hown.cellAt k (by omega)]; simp [intCells, h]
            have HGA : Hid (∀ k (h : k < (firsts L).length), ∃ g, ga = some ⟨g, 0, none⟩ ∧ w9.cell? ⟨g, k, none⟩ = some (.int .i64 ((firsts L)[k] : Int))) := hg
            have hse : ∀ x, x < n → inL L x = true → w9.cell? ⟨w5.heap.size + 1, x, none⟩ = some (.bool true) := fun x hx hi => by
              have h1 := (hR.seen x hx).1
              rw [hi] at h1
              exact cell_kept hbr (Nat.le_refl _) h1
            have HSE : Hid (∀ x, x < n → inL L x = true → w9.cell? ⟨w5.heap.size + 1, x, none⟩ = some (.bool true)) := hse
            have hF : (firsts L).length ≤ 4096 := by have := length_firsts L; omega
            have hm := make_bools n (by omega)
            clear hg hse hown hU8 hU6 hU5 hb6 hbr hR hb5
            go_wp2_with fail
            refine hch.mono ?_
            clear hch
            rintro e w10 ⟨rfl, rfl⟩
            go_wp2_with fail
            clear hm
            go_loopw [23] (fun i wr => ∃ k : Nat, k ≤ (firsts L).length ∧ i = .int .i64 k ∧ Marks w10 n (fun j => inL ((firsts L).take k) j) wr) (fun i _ => (firsts L).length - (intOf i).toNat)
            case atStart => exact ⟨0, Nat.zero_le _, rfl, marks_start w10 n (firsts L)⟩
            case round =>
              obtain ⟨k, hk, rfl, hM⟩ := hrel
              by_cases hlt : k < (firsts L).length
              · obtain ⟨g, rfl, hg0⟩ := HGA.out k hlt
                have hmem : (firsts L)[k] ∈ L := (mem_firsts L _).1 (List.getElem_mem hlt)
                have hxn : (firsts L)[k] < n := by
                  obtain ⟨i, hi, e⟩ := List.mem_iff_getElem.1 hmem
                  rw [← e]; exact HG'.out i hi
                have hin : inL L (firsts L)[k] = true := by unfold inL; simpa using hmem
                have hnot := inL_take_nodup (firsts L) k hlt (nodup_firsts L)
                have hc1 := cell_kept hM.below (Nat.le_refl _) hg0
                have hc2 := cell_kept hM.below (Nat.le_refl _) (HSE.out _ hxn hin)
                obtain ⟨hm1, hm2⟩ := hM.mark _ hxn
                have hnext := hM.set hxn (g' := fun j => inL ((firsts L).take (k + 1)) j) (fun j => inL_step' (firsts L) k j hlt)
                simp only [hnot] at hm1
                obtain ⟨x, hx⟩ : ∃ x, x = (firsts L)[k] := ⟨_, rfl⟩
                rw [← hx] at hc1 hc2 hm1 hm2 hnext hxn
                clear hM hin hnot hmem hx hg0
                have hkn : (k : Int) < ((firsts L).length : Int) := by omega
                have hx0 : ¬ (x : Int) < 0 := by omega
                have hx1 : (x : Int) < (n : Int) := by omega
                go_wp2_with fail
                go_roundw
                case rel => exact ⟨k + 1, by omega, by go_num, hnext⟩
                case measure => simp [intOf]; omega
              · go_wp2_with fail
                go_ret
                exact ⟨rfl, hb8.trans (hM.below.mono hb8.size)⟩
end Go.Proofs.Qxb6615011aDoor
