/- A chain of pieces in memory, and the contracts of the functions that lay and measure it. -/
import Derived.Test.Qxb6614616aRows
import Derived.WalkKit
import Derived.WalkSpells
import Derived.ProofKit
import Derived.Laws.ResultCell
import Derived.RegionTactic
import Derived.ChangeAlike
import Derived.BigRegion
import Derived.BigQuiet
import Derived.WalkSmall
import Derived.Deep.QuietTactic
import Derived.Room.AppendFits
import Derived.Laws.IdiomStrings
import Derived.Laws.OwnMore
import Derived.Lib.Strings
namespace Go.Proofs.Qxb6614616a
open Go.ChangeShapes Go.WideShapes Go.ChangeAt Go.RowKit
set_option linter.unusedVariables false

/-- the characters of a chain; the list holds the last piece first -/
def cat : List ByteArray → List UInt8
  | [] => []
  | x :: l => cat l ++ x.data.toList

/-- the pointer v leads to a chain of the pieces l, all in blocks from B on -/
def Chain (B : Nat) (w : World) : Option Addr → List ByteArray → Prop
  | v, [] => v = none
  | v, x :: l => ∃ b u, v = some ⟨b, 0, none⟩ ∧ B ≤ b ∧ w.cell? ⟨b, 0, none⟩ = some (.pointer u) ∧ w.cell? ⟨b, 1, none⟩ = some (.string x) ∧ w.cell? ⟨b, 2, none⟩ = some (.int .i64 ((cat (x :: l)).length : Nat)) ∧ Chain B w u l

theorem cell_kept {B : Nat} {w w' : World} {p : Addr} {v : Value} (hb : Below B w w') (hB : w.heap.size ≤ B) (h : w.cell? p = some v) : w'.cell? p = some v :=
  (hb.cell (p := p) (Nat.lt_of_lt_of_le (World.block_lt_of_cell? w _ h) hB)).trans h

theorem Chain.below {B : Nat} {w w' : World} (hb : Below w.heap.size w w') : ∀ {l : List ByteArray} {v : Option Addr}, Chain B w v l → Chain B w' v l
  | [], _, h => h
  | x :: l, _, ⟨b, u, e, hB, h0, h1, h2, h⟩ => ⟨b, u, e, hB, cell_kept hb (Nat.le_refl _) h0, cell_kept hb (Nat.le_refl _) h1, cell_kept hb (Nat.le_refl _) h2, Chain.below hb h⟩

theorem Chain.setCell {B : Nat} {w : World} (a : Addr) (y : Value) (ha : a.block < B) : ∀ {l : List ByteArray} {v : Option Addr}, Chain B w v l → Chain B (w.setCell a y) v l
  | [], _, h => h
  | x :: l, _, ⟨b, u, e, hB, h0, h1, h2, h⟩ => by
    have hne : ∀ o, (w.setCell a y).cell? ⟨b, o, none⟩ = w.cell? ⟨b, o, none⟩ := fun o => World.cell?_setCell_other _ _ _ _ (by intro hh; rw [hh] at ha; simp only at ha; omega)
    exact ⟨b, u, e, hB, by rw [hne]; exact h0, by rw [hne]; exact h1, by rw [hne]; exact h2, Chain.setCell a y ha h⟩

theorem Chain.mono {B B' : Nat} {w : World} (hB' : B' ≤ B) : ∀ {l : List ByteArray} {v : Option Addr}, Chain B w v l → Chain B' w v l
  | [], _, h => h
  | x :: l, _, ⟨b, u, e, hB, h0, h1, h2, h⟩ => ⟨b, u, e, by omega, h0, h1, h2, Chain.mono hB' h⟩

set_option maxHeartbeats 400000 in
theorem length19 (B : Nat) (v : Option Addr) (l : List ByteArray) (w : World) (h : Chain B w v l) :
    Calls Try.prog 19 #[.pointer v] w fun e w' => e = .returned (.int .i64 ((cat l).length : Nat)) ∧ w' = w := by
  cases l with
  | nil =>
    obtain rfl := h
    go_enter Try.func19, Try.ntmps19
    go_wp2
    go_ret
    exact ⟨rfl, rfl⟩
  | cons x l =>
    obtain ⟨b, u, rfl, hB, h0, h1, h2, h⟩ := h
    clear h
    go_enter Try.func19, Try.ntmps19
    go_wp2
    go_ret
    exact ⟨rfl, rfl⟩

theorem ret_bool {a b : Bool} (h : a = b) : Ending.returned (.bool a) = .returned (.bool b) := by rw [h]
theorem ret_int {a b : Int} (h : a = b) : Ending.returned (.int .i64 a) = .returned (.int .i64 b) := by rw [h]

theorem cat_len (s : ByteArray) (l : List ByteArray) : ((cat (s :: l)).length : Int) = ((cat l).length : Int) + (s.size : Int) := by
  show ((cat l ++ s.data.toList).length : Int) = _
  rw [List.length_append, Lib.size_eq]; omega

/-- a piece: its three cells -/
def PieceAt (w : World) (b : Nat) (v : Option Addr) (s : ByteArray) (n : Int) : Prop :=
  w.cell? ⟨b, 0, none⟩ = some (.pointer v) ∧ w.cell? ⟨b, 1, none⟩ = some (.string s) ∧ w.cell? ⟨b, 2, none⟩ = some (.int .i64 n)

set_option maxHeartbeats 400000 in
theorem extend15 (B : Nat) (v : Option Addr) (l : List ByteArray) (s : ByteArray) (w : World) (h : Chain B w v l) (hs : (cat l).length + s.size ≤ 4611686018427387904) :
    Calls Try.prog 15 #[.pointer v, .string s] w fun e w' => (∃ b, e = .returned (.pointer (some ⟨b, 0, none⟩)) ∧ w.heap.size ≤ b ∧ PieceAt w' b v s (((cat l).length : Int) + (s.size : Int))) ∧ Below w.heap.size w w' := by
  have h19 := length19 B v l w h
  clear h
  go_enter Try.func15, Try.ntmps15
  go_wp2_with fail
  refine h19.mono ?_
  rintro e w' ⟨rfl, rfl⟩
  clear h19
  go_wp2_with fail
  have hW : Below w'.heap.size w' (w'.alloc (.cells #[.pointer v, .string s, .int .i64 (((cat l).length : Int) + (s.size : Int))] 42)) := (Below.refl _ _).alloc (Nat.le_refl _) _
  go_ret
  refine ⟨⟨_, rfl, Nat.le_refl _, ?_, ?_, ?_⟩, hW⟩
  · rw [World.cell?_alloc_at (hn := rfl)]; rfl
  · rw [World.cell?_alloc_at (hn := rfl)]; rfl
  · rw [World.cell?_alloc_at (hn := rfl)]; rfl

/-- an IRI's value -/
def iriV (v : Option Addr) (t : ByteArray) : Value := .agg #[.pointer v, .string t]

theorem of7 (s : ByteArray) (w : World) : Calls Try.prog 7 #[.string s] w fun e w' => e = .returned (.agg #[.pointer none, .string s]) ∧ Below w.heap.size w w' := by
  go_enter Try.func7, Try.ntmps7
  go_wp2_with fail
  exact bodyPost_ret (v := .agg #[.pointer none, .string s]) (by simp [results, Try.results7, go_sem]) rfl ⟨rfl, (Below.refl _ _).alloc (Nat.le_refl _) _⟩

set_option maxHeartbeats 400000 in
theorem then8 (B : Nat) (v : Option Addr) (l : List ByteArray) (t s : ByteArray) (w : World) (h : Chain B w v l) (hB : B ≤ w.heap.size) (hs : (cat l).length + t.size ≤ 4611686018427387904) :
    Calls Try.prog 8 #[.agg #[.pointer v, .string t], .string s] w fun e w' => (∃ v', e = .returned (.agg #[.pointer v', .string s]) ∧ Chain B w' v' (t :: l)) ∧ Below w.heap.size w w' := by
  have hW : Below w.heap.size w ((w.alloc (.cells #[.pointer v, .string t] 27)).alloc (.cells #[.pointer none, .string ⟨#[]⟩] 27)) := ((Below.refl _ _).alloc (Nat.le_refl _) _).alloc (by simp) _
  have h15 := extend15 B v l t _ (h.below hW) hs
  go_enter Try.func8, Try.ntmps8
  go_wp2_with fail
  refine h15.mono ?_
  clear h15
  rintro e w2 ⟨⟨b, rfl, hb, hp0, hp1, hp2⟩, hb2⟩
  have hc0 : w2.cell? ⟨w.heap.size + 1, 0, none⟩ = some (.pointer none) := cell_kept hb2 (Nat.le_refl _) (by rw [World.cell?_alloc_at (hn := by simp)]; rfl)
  have hc1 : w2.cell? ⟨w.heap.size + 1, 1, none⟩ = some (.string ⟨#[]⟩) := cell_kept hb2 (Nat.le_refl _) (by rw [World.cell?_alloc_at (hn := by simp)]; rfl)
  have hf0 : w2.frozen? ⟨w.heap.size + 1, 0, none⟩ = false := by rw [hb2.frozen (by simp)]; simp
  have hf1 : w2.frozen? ⟨w.heap.size + 1, 1, none⟩ = false := by rw [hb2.frozen (by simp)]; simp
  have hb' : w.heap.size + 1 + 1 ≤ b := by simpa using hb
  have hB3 : Below w.heap.size w ((w2.setCell ⟨w.heap.size + 1, 0, none⟩ (.pointer (some ⟨b, 0, none⟩))).setCell ⟨w.heap.size + 1, 1, none⟩ (.string s)) :=
    ((hW.trans (hb2.mono hW.size)).setCell (by show w.heap.size ≤ w.heap.size + 1; omega) _).setCell (by show w.heap.size ≤ w.heap.size + 1; omega) _
  have hne : ∀ o, ((w2.setCell ⟨w.heap.size + 1, 0, none⟩ (.pointer (some ⟨b, 0, none⟩))).setCell ⟨w.heap.size + 1, 1, none⟩ (.string s)).cell? ⟨b, o, none⟩ = w2.cell? ⟨b, o, none⟩ := fun o => by
    rw [World.cell?_setCell_other _ _ _ _ (by intro hh; have := congrArg Addr.block hh; simp only at this; omega), World.cell?_setCell_other _ _ _ _ (by intro hh; have := congrArg Addr.block hh; simp only at this; omega)]
  have hC : Chain B ((w2.setCell ⟨w.heap.size + 1, 0, none⟩ (.pointer (some ⟨b, 0, none⟩))).setCell ⟨w.heap.size + 1, 1, none⟩ (.string s)) (some ⟨b, 0, none⟩) (t :: l) :=
    ⟨b, v, rfl, by omega, by rw [hne]; exact hp0, by rw [hne]; exact hp1, by rw [hne, cat_len]; exact hp2, h.below hB3⟩
  clear hp0 hp1 hp2 hne h
  go_wp2_with fail
  refine bodyPost_ret (v := .agg #[.pointer (some ⟨b, 0, none⟩), .string s]) ?_ rfl ⟨⟨_, rfl, hC⟩, hB3⟩
  have e0 : ((w2.setCell ⟨w.heap.size + 1, 0, none⟩ (.pointer (some ⟨b, 0, none⟩))).setCell ⟨w.heap.size + 1, 1, none⟩ (.string s)).cell? ⟨w.heap.size + 1, 0, none⟩ = some (.pointer (some ⟨b, 0, none⟩)) := by
    rw [World.cell?_setCell_other _ _ _ _ (by simp)]; exact World.cell?_setCell_same _ _ _ hc0
  have e1 : ((w2.setCell ⟨w.heap.size + 1, 0, none⟩ (.pointer (some ⟨b, 0, none⟩))).setCell ⟨w.heap.size + 1, 1, none⟩ (.string s)).cell? ⟨w.heap.size + 1, 1, none⟩ = some (.string s) :=
    World.cell?_setCell_same _ _ _ (u := .string ⟨#[]⟩) (by rw [World.cell?_setCell_other _ _ _ _ (by simp)]; exact hc1)
  simp [results, Try.results8, go_sem, e0, e1]

set_option maxHeartbeats 400000 in
theorem length16 (B : Nat) (v : Option Addr) (l : List ByteArray) (t : ByteArray) (w : World) (h : Chain B w v l) (hs : (cat l).length + t.size ≤ 4611686018427387904) :
    Calls Try.prog 16 #[.agg #[.pointer v, .string t]] w fun e w' => e = .returned (.int .i64 (((cat l).length + t.size : Nat) : Int)) ∧ Below w.heap.size w w' := by
  have hW : Below w.heap.size w (w.alloc (.cells #[.pointer v, .string t] 27)) := (Below.refl _ _).alloc (Nat.le_refl _) _
  have h' := h.below hW
  clear h
  go_enter Try.func16, Try.ntmps16
  go_wp2_with fail
  go_quiet ((go_at_call 19; exact Calls.quiet_of_same (length19 B _ _ _ (h'.below (below_drewN (Below.refl _ _) _)))))
  go_wp2
  go_ret
  exact ⟨ret_int (by omega), below_drewN hW _⟩

/-- does s end with p? -/
def sfx (s p : ByteArray) : Bool := decide (p.size ≤ s.size) && ((s.extract (s.size - p.size) s.size).toList == p.toList)

set_option maxHeartbeats 400000 in
theorem suffix20 (s p : ByteArray) (w : World) (hs : s.size ≤ 9223372036854775807) :
    Calls Try.prog 20 #[.string s, .string p] w fun e w' => e = .returned (.bool (sfx s p)) ∧ w' = w := by
  by_cases h1 : p.size ≤ s.size
  · have e : sfx s p = ((s.extract (s.size - p.size) s.size).toList == p.toList) := by unfold sfx; rw [decide_eq_true h1, Bool.true_and]
    rw [e]
    go_enter Try.func20, Try.ntmps20
    go_wp2
    go_ret
    exact ⟨rfl, rfl⟩
  · have e : sfx s p = false := by unfold sfx; rw [decide_eq_false h1, Bool.false_and]
    rw [e]
    go_enter Try.func20, Try.ntmps20
    go_wp2
    go_ret
    exact ⟨rfl, rfl⟩

set_option maxHeartbeats 400000 in
theorem suffix17 (s p : ByteArray) (w : World) (hs : s.size ≤ 9223372036854775807) :
    Calls Try.prog 17 #[.string s, .string p] w fun e w' => e = .returned (.bool (sfx s p)) ∧ w' = w := by
  go_enter Try.func17, Try.ntmps17
  go_wp2_with fail
  refine (suffix20 s p w hs).mono ?_
  rintro e w' ⟨rfl, rfl⟩
  go_wp2_with fail
  go_ret
  exact ⟨rfl, rfl⟩
end Go.Proofs.Qxb6614616a
