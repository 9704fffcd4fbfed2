/- 'IRI.Is': is the string the chain's characters and the tail's? -/
import Derived.Test.Qxb6614616aChain
import Derived.Deep.LoopGhost
namespace Go.Proofs.Qxb6614616a
open Go.ChangeShapes Go.WideShapes Go.ChangeAt Go.RowKit
set_option linter.unusedVariables false

theorem take_step (sl c x : List UInt8) (h : c.length + x.length ≤ sl.length) : (sl.take (c.length + x.length) == c ++ x) = ((sl.take c.length == c) && ((sl.drop c.length).take x.length == x)) := by
  rw [List.take_add]
  have hl : (sl.take c.length).length = c.length := by rw [List.length_take]; omega
  rw [Bool.eq_iff_iff]
  simp only [beq_iff_eq, Bool.and_eq_true]
  constructor
  · intro e
    exact List.append_inj e hl
  · rintro ⟨e1, e2⟩
    rw [e1, e2]

/-- the answer, as a name -/
def spells (s : ByteArray) (l : List ByteArray) (t : ByteArray) : Bool := s.data.toList == cat l ++ t.data.toList
/-- do the first characters spell the chain? -/
def upto (s : ByteArray) (l : List ByteArray) : Bool := s.data.toList.take (cat l).length == cat l

theorem spells_short (s : ByteArray) (l : List ByteArray) (t : ByteArray) (h : (cat l).length + t.size ≠ s.size) : spells s l t = false := by
  unfold spells
  rw [beq_eq_false_iff_ne]
  intro e
  apply h
  rw [Lib.size_eq s, e, List.length_append, Lib.size_eq t]
theorem spells_sfx (s : ByteArray) (l : List ByteArray) (t : ByteArray) (h : (cat l).length + t.size = s.size) : spells s l t = (upto s l && sfx s t) := by
  have hl := Lib.size_eq s
  have ht := Lib.size_eq t
  have e := take_step s.data.toList (cat l) t.data.toList (by omega)
  rw [List.take_of_length_le (by omega)] at e
  have e2 : sfx s t = ((s.data.toList.drop (cat l).length).take t.data.toList.length == t.data.toList) := by
    unfold sfx
    rw [decide_eq_true (show t.size ≤ s.size by omega), Bool.true_and, Lib.extract_toList, Lib.toList_data, show s.size - t.size = (cat l).length by omega, show s.size - (cat l).length = t.data.toList.length by omega]
  unfold spells upto
  rw [e, e2]
theorem upto_nil (s : ByteArray) : upto s [] = true := rfl
theorem upto_cons (s : ByteArray) (x : ByteArray) (l : List ByteArray) (h : (cat (x :: l)).length ≤ s.size) :
    upto s (x :: l) = (upto s l && ((s.extract (cat l).length (cat (x :: l)).length).toList == x.toList)) := by
  have hl := Lib.size_eq s
  have hx : (cat (x :: l)).length = (cat l).length + x.data.toList.length := by show (cat l ++ x.data.toList).length = _; rw [List.length_append]
  have e := take_step s.data.toList (cat l) x.data.toList (by omega)
  unfold upto
  rw [Lib.extract_toList, Lib.toList_data, hx, Nat.add_sub_cancel_left]
  exact e

set_option maxHeartbeats 400000 in
theorem is9 (B : Nat) (v : Option Addr) (l : List ByteArray) (t s : ByteArray) (w : World) (h : Chain B w v l) (hs : (cat l).length + t.size ≤ 4611686018427387904) (hss : s.size ≤ 4611686018427387904) :
    Calls Try.prog 9 #[.agg #[.pointer v, .string t], .string s] w fun e w' => e = .returned (.bool (spells s l t)) ∧ Below w.heap.size w w' := by
  have hW : Below w.heap.size w (w.alloc (.cells #[.pointer v, .string t] 27)) := (Below.refl _ _).alloc (Nat.le_refl _) _
  have h16 := length16 B v l t _ (h.below hW) hs
  have hc0 : (w.alloc (.cells #[.pointer v, .string t] 27)).cell? ⟨w.heap.size, 0, none⟩ = some (.pointer v) := by rw [World.cell?_alloc_at (hn := rfl)]; rfl
  have hc1 : (w.alloc (.cells #[.pointer v, .string t] 27)).cell? ⟨w.heap.size, 1, none⟩ = some (.string t) := by rw [World.cell?_alloc_at (hn := rfl)]; rfl
  go_enter Try.func9, Try.ntmps9
  go_wp2_with fail
  refine h16.mono ?_
  clear h16
  rintro e w2 ⟨rfl, hb2⟩
  have hc0' := cell_kept hb2 (Nat.le_refl _) hc0
  have hc1' := cell_kept hb2 (Nat.le_refl _) hc1
  have hb : Below w.heap.size w w2 := hW.trans (hb2.mono hW.size)
  have hC : Chain B w2 v l := h.below hb
  clear hc0 hc1 hb2 h hW
  by_cases hl : (cat l).length + t.size = s.size
  · have hsp := spells_sfx s l t hl
    have HSP : Hid (spells s l t = (upto s l && sfx s t)) := hsp
    have HL : Hid ((cat l).length + t.size = s.size) := hl
    have hl' : (((cat l).length + t.size : Nat) : Int) = (s.size : Int) := by omega
    rw [hl']
    clear hsp hl hl'
    go_wp2_with fail
    refine (suffix17 s t w2 (by omega)).mono ?_
    rintro e w3 ⟨rfl, rfl⟩
    cases hf : sfx s t
    · have HF : Hid (spells s l t = false) := by show spells s l t = false; rw [HSP.out, hf, Bool.and_false]
      clear HSP hf
      go_wp2_with fail
      go_ret
      exact ⟨ret_bool HF.out.symm, hb⟩
    · have HU : Hid (spells s l t = upto s l) := by show spells s l t = upto s l; rw [HSP.out, hf, Bool.and_true]
      clear HSP hf
      go_wp2_with fail
      clear hc0' hc1'
      go_loopg [5] l.length (fun k p wr => ∃ (l' : List ByteArray) (v' : Option Addr) (q : Nat), l'.length = k ∧ p = .pointer v' ∧ Chain B w3 v' l' ∧ (cat l').length ≤ s.size ∧ spells s l t = upto s l' ∧ wr = w3.drewN q)
      case atStart => exact ⟨l, v, 0, rfl, rfl, hC, by have := HL.out; omega, HU.out, rfl⟩
      case round =>
        clear hC HU HL
        obtain ⟨l', v', q, rfl, rfl, hC, hle, hU, rfl⟩ := hrel
        have HU : Hid (spells s l t = upto s l') := hU
        clear hU
        cases l' with
        | nil =>
          obtain rfl := hC
          go_wp2_with fail
          go_ret
          exact ⟨ret_bool (by rw [HU.out, upto_nil]), below_drewN hb _⟩
        | cons x l' =>
          obtain ⟨b, u, rfl, hB, h0, h1, h2, hC'⟩ := hC
          have hlen := cat_len x l'
          have hcons := upto_cons s x l' hle
          obtain ⟨E, hE⟩ : ∃ E, E = (cat (x :: l')).length := ⟨_, rfl⟩
          rw [← hE] at h2 hlen hle hcons
          have hst : ((E : Int) - (x.size : Int)).toNat = (cat l').length := by omega
          have hEq : E = (cat l').length + x.size := by omega
          rw [hEq] at hcons
          have HC : Hid (upto s (x :: l') = (upto s l' && ((s.extract (cat l').length ((cat l').length + x.size)).toList == x.toList))) := hcons
          have hx0 : (0 : Int) ≤ (E : Int) - (x.size : Int) := by omega
          have hx1 : (E : Int) - (x.size : Int) ≤ (E : Int) := by omega
          have hx2 : (E : Int) ≤ (s.size : Int) := by omega
          clear hcons hE hEq
          cases hq : ((s.extract (cat l').length ((cat l').length + x.size)).toList == x.toList)
          · have HF : Hid (spells s l t = false) := by show spells s l t = false; rw [HU.out, HC.out, hq, Bool.and_false]
            go_wp2_with fail
            go_quiet (fail)
            go_wp2_with fail
            go_ret
            exact ⟨ret_bool HF.out.symm, below_drewN (below_drewN hb _) _⟩
          · have HF : Hid (spells s l t = upto s l') := by show spells s l t = upto s l'; rw [HU.out, HC.out, hq, Bool.and_true]
            go_wp2_with fail
            go_quiet (fail)
            go_wp2_with fail
            go_roundg l'.length
            case measure => simp
            case rel => exact ⟨l', u, _, rfl, rfl, hC', by omega, HF.out, rfl⟩
  · have HF : Hid (spells s l t = false) := spells_short s l t hl
    have hl' : ¬ ((((cat l).length + t.size : Nat) : Int) = (s.size : Int)) := by omega
    obtain ⟨m, hm⟩ : ∃ m : Int, m = (((cat l).length + t.size : Nat) : Int) := ⟨_, rfl⟩
    rw [← hm] at hl' ⊢
    clear hm hl
    go_wp2_with fail
    go_ret
    exact ⟨ret_bool HF.out.symm, hb⟩
end Go.Proofs.Qxb6614616a
