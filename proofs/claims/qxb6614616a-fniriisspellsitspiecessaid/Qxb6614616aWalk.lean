/- The walk of 'FnIRIIsSpellsItsPieces'. -/
import Derived.Test.Qxb6614616aRowsOf
import Derived.Deep.RegionWith
import Derived.Deep.Cut
namespace Go.Proofs.Qxb6614616a
open Go.ChangeShapes Go.WideShapes Go.ChangeAt Go.RowKit
set_option linter.unusedVariables false
set_option maxRecDepth 100000

set_option maxHeartbeats 400000 in
theorem spell_off (ad : Option Addr) (n c : Nat) (nm : Nat → ByteArray) (t s : ByteArray) (w : World) (hn : n ≤ 8796093022207) (ht : t.size ≤ maxLen) (hs : s.size ≤ maxLen) (hv : StrsAt w ad n nm) (ho : 262144 < t.size ∨ 262144 < s.size ∨ 16384 < n) :
    Calls Try.prog 3 #[.slice ad n c, .string t, .string s] w fun e w' => e = .returned (.bool true) ∧ Below w.heap.size w w' := by
  have h6 := bytes6 ad n c nm t s w hn ht hs hv
  clear hv
  by_cases h1 : 262144 < t.size
  · go_enter Try.func3, Try.ntmps3
    go_wp2_with fail
    refine h6.mono ?_
    rintro e w' ⟨⟨r, rfl, -⟩, rfl⟩
    clear h6
    cases r
    all_goals
      go_wp2_with fail
      go_ret
      exact ⟨rfl, Below.refl _ _⟩
  · by_cases h2 : 262144 < s.size
    · go_enter Try.func3, Try.ntmps3
      go_wp2_with fail
      refine h6.mono ?_
      rintro e w' ⟨⟨r, rfl, -⟩, rfl⟩
      clear h6
      cases r
      all_goals
        go_wp2_with fail
        go_ret
        exact ⟨rfl, Below.refl _ _⟩
    · have h3 : 16384 < n := by omega
      go_enter Try.func3, Try.ntmps3
      go_wp2_with fail
      refine h6.mono ?_
      rintro e w' ⟨⟨r, rfl, -⟩, rfl⟩
      clear h6
      cases r
      all_goals
        go_wp2_with fail
        go_ret
        exact ⟨rfl, Below.refl _ _⟩

theorem two_set {w : World} {g : Nat} {u0 u1 p q : Value} (h0 : w.cell? ⟨g, 0, none⟩ = some u0) (h1 : w.cell? ⟨g, 1, none⟩ = some u1) :
    ((w.setCell ⟨g, 0, none⟩ p).setCell ⟨g, 1, none⟩ q).cell? ⟨g, 0, none⟩ = some p ∧ ((w.setCell ⟨g, 0, none⟩ p).setCell ⟨g, 1, none⟩ q).cell? ⟨g, 1, none⟩ = some q := by
  constructor
  · rw [World.cell?_setCell_other _ _ _ _ (by simp)]; exact World.cell?_setCell_same _ _ _ h0
  · exact World.cell?_setCell_same _ _ _ (by rw [World.cell?_setCell_other _ _ _ _ (by simp)]; exact h1)

/-- the IRI under way: its chain holds the first k parts, its tail is q -/
structure XRel (w : World) (nm : Nat → ByteArray) (k : Nat) (q : ByteArray) (v : Option Addr) (l : List ByteArray) (wr : World) : Prop where
  below : Below w.heap.size w wr
  head : wr.cell? ⟨w.heap.size, 0, none⟩ = some (.pointer v)
  tail : wr.cell? ⟨w.heap.size, 1, none⟩ = some (.string q)
  f0 : wr.frozen? ⟨w.heap.size, 0, none⟩ = false
  f1 : wr.frozen? ⟨w.heap.size, 1, none⟩ = false
  chain : Chain (w.heap.size + 1) wr v l
  text : cat l = joined nm k

theorem XRel.lt {w wr : World} {nm : Nat → ByteArray} {k : Nat} {q : ByteArray} {v : Option Addr} {l : List ByteArray} (h : XRel w nm k q v l wr) : w.heap.size < wr.heap.size := World.block_lt_of_cell? wr _ h.head

theorem XRel.step {w wr w3 : World} {nm : Nat → ByteArray} {k : Nat} {v v' : Option Addr} {l : List ByteArray} (h : XRel w nm k (nm k) v l wr) (hb : Below wr.heap.size wr w3) (hC : Chain (w.heap.size + 1) w3 v' (nm k :: l)) (q : ByteArray) :
    XRel w nm (k + 1) q v' (nm k :: l) ((w3.setCell ⟨w.heap.size, 0, none⟩ (.pointer v')).setCell ⟨w.heap.size, 1, none⟩ (.string q)) where
  below := ((h.below.trans (hb.mono h.below.size)).setCell (Nat.le_refl _) _).setCell (Nat.le_refl _) _
  head := (two_set (p := .pointer v') (q := .string q) (cell_kept hb (Nat.le_refl _) h.head) (cell_kept hb (Nat.le_refl _) h.tail)).1
  tail := (two_set (p := .pointer v') (q := .string q) (cell_kept hb (Nat.le_refl _) h.head) (cell_kept hb (Nat.le_refl _) h.tail)).2
  f0 := by simpa using (hb.frozen (p := ⟨w.heap.size, 0, none⟩) h.lt).trans h.f0
  f1 := by simpa using (hb.frozen (p := ⟨w.heap.size, 1, none⟩) h.lt).trans h.f1
  chain := (hC.setCell _ _ (by show w.heap.size < w.heap.size + 1; omega)).setCell _ _ (by show w.heap.size < w.heap.size + 1; omega)
  text := by show cat l ++ (nm k).data.toList = _; rw [h.text]; rfl

set_option maxHeartbeats 2000000 in
theorem spell_main (ad : Option Addr) (n c : Nat) (nm : Nat → ByteArray) (t s : ByteArray) (w : World) (hn : n ≤ 16384) (ht : t.size ≤ 262144) (hs : s.size ≤ 262144) (hv : StrsAt w ad n nm) :
    Calls Try.prog 3 #[.slice ad n c, .string t, .string s] w fun e w' => e = .returned (.bool true) ∧ Below w.heap.size w w' := by
  have h6 := bytes6 ad n c nm t s w (by omega) (by unfold maxLen; omega) (by unfold maxLen; omega) hv
  have HC : Hid (∀ j, j < n → ∃ b o, ad = some ⟨b, o, none⟩ ∧ w.cell? ⟨b, o + j, none⟩ = some (.string (nm j))) := fun j hj => strs_one hv j hj
  clear hv
  go_enter Try.func3, Try.ntmps3
  go_wp2_with fail
  refine h6.mono ?_
  rintro e w' ⟨⟨r, rfl, hsm⟩, rfl⟩
  have HS : Hid (r = true → ∀ j, j < n → (nm j).size ≤ 1048576) := hsm
  clear h6 hsm
  cases r
  · go_wp2_with fail
    go_ret
    exact ⟨rfl, Below.refl _ _⟩
  have HM : Hid (∀ j, j < n → (nm j).size ≤ 1048576) := HS.out rfl
  clear HS
  go_wp2_with fail
  go_loop [7, 8] (fun r i => ∃ k : Nat, k ≤ n ∧ i = .int .i64 k ∧ r = .int .i64 (tot nm k : Nat) ∧ tot nm k ≤ 524288) (fun _ i => n - (intOf i).toNat)
  case atStart => exact ⟨0, Nat.zero_le _, rfl, rfl, by simp [tot]⟩
  case round =>
    obtain ⟨k, hk, rfl, rfl, htot⟩ := hrel
    by_cases hlt : k < n
    · obtain ⟨b, o, rfl, hck⟩ := HC.out k hlt
      have hsk := HM.out k hlt
      have hkn : (k : Int) < (n : Int) := by omega
      have ht1 : tot nm (k + 1) = tot nm k + (16 + (nm k).size) := rfl
      have HT1 : Hid (tot nm (k + 1) = tot nm k + (16 + (nm k).size)) := ht1
      clear ht1
      by_cases hov : (tot nm k : Int) + (16 + ((nm k).size : Int)) ≤ 524288
      · go_wp2_with fail
        go_round
        case rel => exact ⟨k + 1, by omega, by go_num, by rw [HT1.out]; go_num, by rw [HT1.out]; omega⟩
        case measure => simp [intOf]; omega
      · go_wp2_with fail
        go_ret
        exact ⟨rfl, Below.refl _ _⟩
    obtain rfl : n = k := by omega
    clear hk hlt HM
    have hmk := fun w => make_cap (tot nm n + t.size) ((tot nm n : Int) + (t.size : Int)) (by omega) (by omega) w
    have hcl : Below w'.heap.size w' (w'.alloc (.cells #[.pointer none, .string ⟨#[]⟩] 27)) := (Below.refl _ _).alloc (Nat.le_refl _) _
    have hx0 : (w'.alloc (.cells #[.pointer none, .string ⟨#[]⟩] 27)).cell? ⟨w'.heap.size, 0, none⟩ = some (.pointer none) := by rw [World.cell?_alloc_at (hn := rfl)]; rfl
    have hx1 : (w'.alloc (.cells #[.pointer none, .string ⟨#[]⟩] 27)).cell? ⟨w'.heap.size, 1, none⟩ = some (.string ⟨#[]⟩) := by rw [World.cell?_alloc_at (hn := rfl)]; rfl
    by_cases hn0 : n = 0
    · have hn0' : (n : Int) = 0 := by omega
      have H0 : Hid (n = 0) := hn0
      clear hn0
      go_wp2_with fail
      refine (of7 t _).mono ?_
      rintro e w2 ⟨rfl, hb2⟩
      have hy0 := cell_kept hb2 (Nat.le_refl _) hx0
      have hy1 := cell_kept hb2 (Nat.le_refl _) hx1
      have hf0 : w2.frozen? ⟨w'.heap.size, 0, none⟩ = false := by rw [hb2.frozen (by simp)]; simp
      have hf1 : w2.frozen? ⟨w'.heap.size, 1, none⟩ = false := by rw [hb2.frozen (by simp)]; simp
      have hbx : Below w'.heap.size w' ((w2.setCell ⟨w'.heap.size, 0, none⟩ (.pointer none)).setCell ⟨w'.heap.size, 1, none⟩ (.string t)) :=
        ((hcl.trans (hb2.mono hcl.size)).setCell (Nat.le_refl _) _).setCell (Nat.le_refl _) _
      have hX0 := (two_set (p := .pointer none) (q := .string t) hy0 hy1).1
      have hX1 := (two_set (p := .pointer none) (q := .string t) hy0 hy1).2
      have hC : Chain (w'.heap.size + 1) ((w2.setCell ⟨w'.heap.size, 0, none⟩ (.pointer none)).setCell ⟨w'.heap.size, 1, none⟩ (.string t)) none [] := rfl
      obtain ⟨v, l, hcat, hC', hX0'⟩ : ∃ v l, cat l = joined nm n ∧ Chain (w'.heap.size + 1) ((w2.setCell ⟨w'.heap.size, 0, none⟩ (.pointer none)).setCell ⟨w'.heap.size, 1, none⟩ (.string t)) v l ∧
          ((w2.setCell ⟨w'.heap.size, 0, none⟩ (.pointer none)).setCell ⟨w'.heap.size, 1, none⟩ (.string t)).cell? ⟨w'.heap.size, 0, none⟩ = some (.pointer v) := ⟨none, [], by rw [H0.out]; rfl, hC, hX0⟩
      clear hX0 hC
      go_upto_region 21 with fail
      clear hf0 hf1 hy0 hy1 hb2 hx0 hx1 hn0'
      generalize hwx : ((w2.setCell ⟨w'.heap.size, 0, none⟩ (.pointer none)).setCell ⟨w'.heap.size, 1, none⟩ (.string t)) = wx at hX1 hX0' hC' hbx ⊢
      clear hwx
      have hX0 := hX0'
      have hC := hC'
      clear hX0' hC'
      clear hcl
      go_wp2_with fail
      clear hmk
      -- the wanted text
      go_loopw [11, 12] (fun v i wr => ∃ k : Nat, k ≤ n ∧ i = .int .i64 k ∧ v = .slice (some ⟨wx.heap.size, 0, none⟩) (joined nm k).length (tot nm n + t.size) ∧ Wants wr wx.heap.size (tot nm n + t.size) (joined nm k) ∧ Below wx.heap.size wx wr) (fun _ i _ => n - (intOf i).toNat)
      case atStart => exact ⟨0, Nat.zero_le _, rfl, rfl, wants_start wx _ (by omega), (Below.refl _ _).alloc (Nat.le_refl _) _⟩
      case round =>
        obtain ⟨k, hk, rfl, rfl, hWa, hbr⟩ := hrel
        by_cases hlt : k < n
        · obtain ⟨b, o, rfl, hc0⟩ := HC.out k hlt
          have hck : wr.cell? ⟨b, o + k, none⟩ = some (.string (nm k)) := cell_kept (hbx.trans (hbr.mono hbx.size)) (Nat.le_refl _) hc0
          have hkn : (k : Int) < (n : Int) := by omega
          have hroom : (joined nm k).length + (nm k).size ≤ tot nm n + t.size := by
            have h1 := joined_len nm k
            have h2 := tot_mono nm (show k + 1 ≤ n by omega)
            rw [tot] at h2
            omega
          have hlen : (joined nm (k + 1)).length = (joined nm k).length + (nm k).size := by rw [joined, List.length_append, Lib.size_eq]
          have HL : Hid ((joined nm (k + 1)).length = (joined nm k).length + (nm k).size) := hlen
          clear hlen
          go_wp2_with (at_builtin; refine wp_more rfl (.tmp 83) (.tmp 87) rfl hWa rfl (nm k) rfl hroom ?_)
          intro w1 hWa1 hb1
          clear hWa
          go_wp2_with fail
          go_roundw
          case rel => exact ⟨k + 1, by omega, by go_num, by rw [HL.out], hWa1, hbr.trans hb1⟩
          case measure => simp [intOf]; omega
        obtain rfl : n = k := by omega
        clear hk hlt
        have hroom : (joined nm n).length + t.size ≤ tot nm n + t.size := by have h1 := joined_len nm n; omega
        have hlen : (joined nm n ++ t.data.toList).length = (joined nm n).length + t.size := by rw [List.length_append, Lib.size_eq]
        go_wp2_with (at_builtin; refine wp_more rfl (.tmp 89) (.tmp 90) rfl hWa rfl t rfl hroom ?_)
        intro w1 hWa1 hb1
        clear hWa
        have hbw : Below wx.heap.size wx w1 := hbr.trans hb1
        have hconv := conv_wants hWa1
        rw [hlen] at hconv
        have hq0 := cell_kept hbw (Nat.le_refl _) hX0
        have hq1 := cell_kept hbw (Nat.le_refl _) hX1
        have hC1 := hC.below hbw
        obtain ⟨T, hT⟩ : ∃ T : ByteArray, T = ⟨(joined nm n ++ t.data.toList).toArray⟩ := ⟨_, rfl⟩
        rw [← hT] at hconv
        have hTs : T.size = (joined nm n).length + t.size := by rw [Lib.size_eq, hT, ← hlen]
        have hTl : T.data.toList = cat l ++ t.data.toList := by rw [hT, hcat]
        have hjl := joined_len nm n
        have hi1 := is9 (w'.heap.size + 1) v l t s w1 hC1 (by rw [hcat]; omega) (by omega)
        have e1 : spells s l t = (T.toList == s.toList) := by
          unfold spells
          rw [← hTl, Lib.toList_data, Lib.toList_data]
          exact Bool.eq_iff_iff.2 (by simp only [beq_iff_eq]; exact ⟨fun e => e.symm, fun e => e.symm⟩)
        have e2 : spells T l t = true := by unfold spells; rw [hTl]; simp
        have hi2 := fun w2 (hh : Below w1.heap.size w1 w2) => is9 (w'.heap.size + 1) v l t T w2 (hC1.below hh) (by rw [hcat]; omega) (by omega)
        have HI2 : Hid (∀ w2, Below w1.heap.size w1 w2 → Calls Try.prog 9 #[.agg #[.pointer v, .string t], .string T] w2 fun e w' => e = .returned (.bool (spells T l t)) ∧ Below w2.heap.size w2 w') := hi2
        rw [e1] at hi1
        clear hi2 hT hTl hC1 hC hWa1 hX0 hX1 hroom hlen e1
        go_wp2_with fail
        refine hi1.mono ?_
        clear hi1
        rintro e w2 ⟨rfl, hb2⟩
        have hq0' := cell_kept hb2 (Nat.le_refl _) hq0
        have hq1' := cell_kept hb2 (Nat.le_refl _) hq1
        have hi3 := HI2.out w2 hb2
        rw [e2] at hi3
        clear HI2 e2 hq0 hq1 hconv
        go_wp2_with fail
        refine hi3.mono ?_
        clear hi3
        rintro e w3 ⟨rfl, hb3⟩
        go_wp2_with fail
        go_ret
        have hz1 : Below w'.heap.size w' w1 := hbx.trans (hbw.mono hbx.size)
        have hz2 : Below w'.heap.size w' w2 := hz1.trans (hb2.mono hz1.size)
        exact ⟨rfl, hz2.trans (hb3.mono hz2.size)⟩
    · have hn0' : ¬ (n : Int) = 0 := by omega
      obtain ⟨b, o, rfl, hc0⟩ := HC.out 0 (by omega)
      have hck : (w'.alloc (.cells #[.pointer none, .string ⟨#[]⟩] 27)).cell? ⟨b, o, none⟩ = some (.string (nm 0)) := cell_kept hcl (Nat.le_refl _) hc0
      have hnp : (0 : Int) < (n : Int) := by omega
      go_wp2_with fail
      refine (of7 (nm 0) _).mono ?_
      rintro e w2 ⟨rfl, hb2⟩
      have hy0 := cell_kept hb2 (Nat.le_refl _) hx0
      have hy1 := cell_kept hb2 (Nat.le_refl _) hx1
      have hf0 : w2.frozen? ⟨w'.heap.size, 0, none⟩ = false := by rw [hb2.frozen (by simp)]; simp
      have hf1 : w2.frozen? ⟨w'.heap.size, 1, none⟩ = false := by rw [hb2.frozen (by simp)]; simp
      have hR1 : XRel w' nm 0 (nm 0) none [] ((w2.setCell ⟨w'.heap.size, 0, none⟩ (.pointer none)).setCell ⟨w'.heap.size, 1, none⟩ (.string (nm 0))) := {
        below := ((hcl.trans (hb2.mono hcl.size)).setCell (Nat.le_refl _) _).setCell (Nat.le_refl _) _
        head := (two_set (p := .pointer none) (q := .string (nm 0)) hy0 hy1).1
        tail := (two_set (p := .pointer none) (q := .string (nm 0)) hy0 hy1).2
        f0 := by simpa using hf0
        f1 := by simpa using hf1
        chain := rfl
        text := rfl }
      go_wp2_with fail
      clear hf0 hf1 hy0 hy1 hb2 hx0 hx1 hck hc0 hcl
      go_loopw [10] (fun i wr => ∃ (k : Nat) (v : Option Addr) (l : List ByteArray), k < n ∧ i = .int .i64 ((k + 1 : Nat) : Int) ∧ XRel w' nm k (nm k) v l wr) (fun i _ => n - (intOf i).toNat)
      case atStart => exact ⟨0, none, [], by omega, rfl, hR1⟩
      case round =>
        clear hR1
        obtain ⟨k, v, l, hk, rfl, hR⟩ := hrel
        have hjl := joined_len nm k
        have htm := tot_mono nm (show k + 1 ≤ n by omega)
        have htk : tot nm (k + 1) = tot nm k + (16 + (nm k).size) := rfl
        have hbd : (cat l).length + (nm k).size ≤ 4611686018427387904 := by rw [hR.text]; omega
        by_cases hlt : k + 1 < n
        · have hc1 := HC.out (k + 1) hlt
          obtain ⟨b', o', e', hc2⟩ := hc1
          cases e'
          have hck : wr.cell? ⟨b, o + (k + 1), none⟩ = some (.string (nm (k + 1))) := cell_kept hR.below (Nat.le_refl _) hc2
          have h8 := then8 (w'.heap.size + 1) v l (nm k) (nm (k + 1)) wr.drew (hR.chain.below (Below.refl _ _).drew) (show w'.heap.size + 1 ≤ wr.heap.size from hR.lt) hbd
          have hh := hR.head
          have hta := hR.tail
          have hkn : ((k + 1 : Nat) : Int) < (n : Int) := by omega
          have hlt' := hR.lt
          clear htm htk hbd hc2
          go_wp2_with fail
          go_region_with ((go_at_call 8; refine h8.mono ?_; rintro e w3 ⟨⟨v', rfl, hC3⟩, hb3⟩; have hz0 := cell_kept hb3 (Nat.le_refl _) (show wr.drew.cell? _ = _ from hh); have hz1 := cell_kept hb3 (Nat.le_refl _) (show wr.drew.cell? _ = _ from hta); have hg0 : w3.frozen? ⟨w'.heap.size, 0, none⟩ = false := (hb3.frozen (p := ⟨w'.heap.size, 0, none⟩) hlt').trans hR.f0; have hg1 : w3.frozen? ⟨w'.heap.size, 1, none⟩ = false := (hb3.frozen (p := ⟨w'.heap.size, 1, none⟩) hlt').trans hR.f1))
          all_goals
            go_wp2_with fail
            go_roundw
            case rel => exact ⟨k + 1, _, _, hlt, by go_num, hR.step ((Below.refl _ wr).drew.trans hb3) hC3 (nm (k + 1))⟩
            case measure => simp [intOf]; omega
        have hn1 : k + 1 = n := by omega
        have hkn : ¬ ((k + 1 : Nat) : Int) < (n : Int) := by omega
        have h8 := then8 (w'.heap.size + 1) v l (nm k) t wr hR.chain (show w'.heap.size + 1 ≤ wr.heap.size from hR.lt) hbd
        have hh := hR.head
        have hta := hR.tail
        have hlt' := hR.lt
        go_wp2_with fail
        refine h8.mono ?_
        clear h8
        rintro e w3 ⟨⟨v', rfl, hC3⟩, hb3⟩
        have hz0 := cell_kept hb3 (Nat.le_refl _) hh
        have hz1 := cell_kept hb3 (Nat.le_refl _) hta
        have hg0 : w3.frozen? ⟨w'.heap.size, 0, none⟩ = false := (hb3.frozen (p := ⟨w'.heap.size, 0, none⟩) hlt').trans hR.f0
        have hg1 : w3.frozen? ⟨w'.heap.size, 1, none⟩ = false := (hb3.frozen (p := ⟨w'.heap.size, 1, none⟩) hlt').trans hR.f1
        have hXR := hR.step hb3 hC3 t
        clear hC3 hb3 hR
        go_upto_region 21 with fail
        generalize hwx : ((w3.setCell ⟨w'.heap.size, 0, none⟩ (.pointer v')).setCell ⟨w'.heap.size, 1, none⟩ (.string t)) = wx at hXR ⊢
        rw [hn1] at hXR
        clear hwx hz0 hz1 hg0 hg1 hh hta hlt' htm htk hbd hjl hlt hnp hk hn1 hkn hn0 hn0'
        obtain ⟨l, hl⟩ : ∃ l', l' = nm k :: l := ⟨_, rfl⟩
        rw [← hl] at hXR
        clear hl
        obtain ⟨v, rfl⟩ : ∃ v0, v0 = v' := ⟨_, rfl⟩
        have hbx := hXR.below
        have hX0 := hXR.head
        have hX1 := hXR.tail
        have hC := hXR.chain
        have hcat := hXR.text
        clear hXR
        go_wp2_with fail
        clear hmk
        -- the wanted text
        go_loopw [11, 12] (fun v i wr => ∃ k : Nat, k ≤ n ∧ i = .int .i64 k ∧ v = .slice (some ⟨wx.heap.size, 0, none⟩) (joined nm k).length (tot nm n + t.size) ∧ Wants wr wx.heap.size (tot nm n + t.size) (joined nm k) ∧ Below wx.heap.size wx wr) (fun _ i _ => n - (intOf i).toNat)
        case atStart => exact ⟨0, Nat.zero_le _, rfl, rfl, wants_start wx _ (by omega), (Below.refl _ _).alloc (Nat.le_refl _) _⟩
        case round =>
          obtain ⟨k, hk, rfl, rfl, hWa, hbr⟩ := hrel
          by_cases hlt : k < n
          · obtain ⟨b', o', e', hc0⟩ := HC.out k hlt
            cases e'
            have hck : wr.cell? ⟨b, o + k, none⟩ = some (.string (nm k)) := cell_kept (hbx.trans (hbr.mono hbx.size)) (Nat.le_refl _) hc0
            have hkn : (k : Int) < (n : Int) := by omega
            have hroom : (joined nm k).length + (nm k).size ≤ tot nm n + t.size := by
              have h1 := joined_len nm k
              have h2 := tot_mono nm (show k + 1 ≤ n by omega)
              rw [tot] at h2
              omega
            have hlen : (joined nm (k + 1)).length = (joined nm k).length + (nm k).size := by rw [joined, List.length_append, Lib.size_eq]
            have HL : Hid ((joined nm (k + 1)).length = (joined nm k).length + (nm k).size) := hlen
            clear hlen
            go_wp2_with (at_builtin; refine wp_more rfl (.tmp 83) (.tmp 87) rfl hWa rfl (nm k) rfl hroom ?_)
            intro w1 hWa1 hb1
            clear hWa
            go_wp2_with fail
            go_roundw
            case rel => exact ⟨k + 1, by omega, by go_num, by rw [HL.out], hWa1, hbr.trans hb1⟩
            case measure => simp [intOf]; omega
          obtain rfl : n = k := by omega
          clear hk hlt
          have hroom : (joined nm n).length + t.size ≤ tot nm n + t.size := by have h1 := joined_len nm n; omega
          have hlen : (joined nm n ++ t.data.toList).length = (joined nm n).length + t.size := by rw [List.length_append, Lib.size_eq]
          go_wp2_with (at_builtin; refine wp_more rfl (.tmp 89) (.tmp 90) rfl hWa rfl t rfl hroom ?_)
          intro w1 hWa1 hb1
          clear hWa
          have hbw : Below wx.heap.size wx w1 := hbr.trans hb1
          have hconv := conv_wants hWa1
          rw [hlen] at hconv
          have hq0 := cell_kept hbw (Nat.le_refl _) hX0
          have hq1 := cell_kept hbw (Nat.le_refl _) hX1
          have hC1 := hC.below hbw
          obtain ⟨T, hT⟩ : ∃ T : ByteArray, T = ⟨(joined nm n ++ t.data.toList).toArray⟩ := ⟨_, rfl⟩
          rw [← hT] at hconv
          have hTs : T.size = (joined nm n).length + t.size := by rw [Lib.size_eq, hT, ← hlen]
          have hTl : T.data.toList = cat l ++ t.data.toList := by rw [hT, hcat]
          have hjl := joined_len nm n
          have hi1 := is9 (w'.heap.size + 1) v l t s w1 hC1 (by rw [hcat]; omega) (by omega)
          have e1 : spells s l t = (T.toList == s.toList) := by
            unfold spells
            rw [← hTl, Lib.toList_data, Lib.toList_data]
            exact Bool.eq_iff_iff.2 (by simp only [beq_iff_eq]; exact ⟨fun e => e.symm, fun e => e.symm⟩)
          have e2 : spells T l t = true := by unfold spells; rw [hTl]; simp
          have hi2 := fun w2 (hh : Below w1.heap.size w1 w2) => is9 (w'.heap.size + 1) v l t T w2 (hC1.below hh) (by rw [hcat]; omega) (by omega)
          have HI2 : Hid (∀ w2, Below w1.heap.size w1 w2 → Calls Try.prog 9 #[.agg #[.pointer v, .string t], .string T] w2 fun e w' => e = .returned (.bool (spells T l t)) ∧ Below w2.heap.size w2 w') := hi2
          rw [e1] at hi1
          clear hi2 hT hTl hC1 hC hWa1 hX0 hX1 hroom hlen e1
          go_wp2_with fail
          refine hi1.mono ?_
          clear hi1
          rintro e w2 ⟨rfl, hb2⟩
          have hq0' := cell_kept hb2 (Nat.le_refl _) hq0
          have hq1' := cell_kept hb2 (Nat.le_refl _) hq1
          have hi3 := HI2.out w2 hb2
          rw [e2] at hi3
          clear HI2 e2 hq0 hq1 hconv
          go_wp2_with fail
          refine hi3.mono ?_
          clear hi3
          rintro e w3 ⟨rfl, hb3⟩
          go_wp2_with fail
          go_ret
          have hz1 : Below w'.heap.size w' w1 := hbx.trans (hbw.mono hbx.size)
          have hz2 : Below w'.heap.size w' w2 := hz1.trans (hb2.mono hz1.size)
          exact ⟨rfl, hz2.trans (hb3.mono hz2.size)⟩
end Go.Proofs.Qxb6614616a
