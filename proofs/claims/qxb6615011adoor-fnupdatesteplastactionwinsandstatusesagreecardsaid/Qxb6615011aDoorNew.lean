/- The contracts of 'ZZstepDef', 'ZZzeroTime', 'New', 'newSagaNamed'. -/
import Derived.Test.Qxb6615011aDoorLens
import Derived.Test.Qxb6615011aDoorMem
import Derived.Laws.ResultCell
import Derived.RegionTactic
import Derived.ChangeAlike
import Derived.BigRegion
import Derived.Conc.SmallLaws
import Derived.Laws.EntriesVeiled
namespace Go.Proofs.Qxb6615011aDoor
open Go.ChangeShapes Go.WideShapes Go.ChangeAt Go.RowKit
set_option linter.unusedVariables false

/-- the empty string's value -/
def es : Value := .string ⟨#[]⟩
/-- a step's definition: its seven cells -/
def defRow (s : ByteArray) : List Value := [.string s, .string ⟨#[]⟩, .string ⟨#[]⟩, .int .i64 0, .int .i64 0, .int .i64 0, .bool false]

theorem stepDef16 (s : ByteArray) (w : World) :
    Calls Tryd.prog 16 #[.string s] w fun e w' => e = .returned (.agg (defRow s).toArray) ∧ Below w.heap.size w w' := by
  go_enter Tryd.func16, Tryd.ntmps16
  go_wp2

  exact bodyPost_ret (v := .agg (defRow s).toArray) (by simp [results, Tryd.results16, go_sem, defRow]) rfl ⟨rfl, ((Below.refl _ _).alloc (Nat.le_refl _) _).alloc (by simp) _⟩

theorem zeroTime18 (w : World) :
    Calls Tryd.prog 18 #[] w fun e w' => e = .returned (.agg #[.int .u64 0, .int .i64 0, .pointer none]) ∧ Below w.heap.size w w' := by
  go_enter Tryd.func18, Tryd.ntmps18
  go_wp2

  exact bodyPost_ret (v := .agg #[.int .u64 0, .int .i64 0, .pointer none]) (by simp [results, Tryd.results18, go_sem]) rfl ⟨rfl, (Below.refl _ _).alloc (Nat.le_refl _) _⟩

/-- a new step: its five cells -/
def stepRow (s : ByteArray) : List Value := [.string s, .string ⟨#[78, 79, 84, 95, 82, 85, 78]⟩, .int .i64 0, .string ⟨#[78, 79, 84, 95, 78, 69, 69, 68, 69, 68]⟩, .int .i64 0]

theorem info32 : (Tryd.prog.info? 32).map (fun i => (i.zero, i.size, i.bytes)) = some (some (.agg #[.string ⟨#[]⟩, .string ⟨#[]⟩, .int .i64 0, .string ⟨#[]⟩, .int .i64 0]), 5, 64) := by kernel_rfl
theorem info44 : (Tryd.prog.info? 44).map (fun i => (i.zero, i.size, i.bytes)) = some (some (.agg (defRow ⟨#[]⟩).toArray), 7, 80) := by kernel_rfl

theorem make32 (n : Nat) (hn : n ≤ 131072) (w : World) :
    (Instr.makeSlice 27 (.int .i64 (n : Int)) (.int .i64 (n : Int))).run Tryd.prog w = .ok (.slice (some ⟨w.heap.size, 0, none⟩) n n) (w.alloc (.cells (madeCells #[.string ⟨#[]⟩, .string ⟨#[]⟩, .int .i64 0, .string ⟨#[]⟩, .int .i64 0] (n * 5)) 32)) := by
  obtain ⟨i, hi, hz, hs, hb⟩ := info_parts info32
  have hr := run_make (P := Tryd.prog) w 27 32 i _ Tryd.underlying27 hi hz .i64 .i64 n n (by omega) (Int.le_refl _) (by rw [hb]; omega) (by omega)
  rw [hr, hs]
  simp
  rfl
theorem make44 (n : Nat) (hn : n ≤ 131072) (w : World) :
    (Instr.makeSlice 41 (.int .i64 (n : Int)) (.int .i64 (n : Int))).run Tryd.prog w = .ok (.slice (some ⟨w.heap.size, 0, none⟩) n n) (w.alloc (.cells (madeCells (defRow ⟨#[]⟩).toArray (n * 7)) 44)) := by
  obtain ⟨i, hi, hz, hs, hb⟩ := info_parts info44
  have hr := run_make (P := Tryd.prog) w 41 44 i _ Tryd.underlying41 hi hz .i64 .i64 n n (by omega) (Int.le_refl _) (by rw [hb]; omega) (by omega)
  rw [hr, hs]
  simp
  rfl

/-- the boxed definition's nine cells -/
def dcells (D n : Nat) : List Value := [.string ⟨#[]⟩, .string ⟨#[116, 120, 45, 49]⟩, .int .i64 0, .slice (some ⟨D, 0, none⟩) n n, .slice none 0 0, .string ⟨#[]⟩, .string ⟨#[]⟩, .string ⟨#[]⟩, .string ⟨#[]⟩]
/-- the zero time's three cells -/
def tcells : List Value := [.int .u64 0, .int .i64 0, .pointer none]

/-- what stands in New's loop when k steps are laid -/
structure NewRel (w : World) (D n : Nat) (nm : Nat → ByteArray) (k : Nat) (wr : World) : Prop where
  below : Below w.heap.size w wr
  size : w.heap.size + 3 ≤ wr.heap.size
  dbox : wr.rangeAt w.heap.size 0 (dcells D n)
  tbox : wr.rangeAt (w.heap.size + 1) 0 tcells
  there : wr.there (w.heap.size + 1 + 1) 0 (n * 5)
  rows : ∀ j, j < k → wr.rangeAt (w.heap.size + 1 + 1) (j * 5) (stepRow (nm j))

theorem newRel_start (w : World) (D n : Nat) (nm : Nat → ByteArray) : NewRel w D n nm 0
    (((w.alloc (.cells (dcells D n).toArray 52)).alloc (.cells tcells.toArray 56)).alloc (.cells (madeCells #[.string ⟨#[]⟩, .string ⟨#[]⟩, .int .i64 0, .string ⟨#[]⟩, .int .i64 0] (n * 5)) 32)) where
  below := (((Below.refl _ _).alloc (Nat.le_refl _) _).alloc (by simp) _).alloc (by simp; omega) _
  size := by simp
  dbox := World.rangeAt_alloc (World.rangeAt_alloc (rangeAt_new w _ _) _) _
  tbox := by
    have h := rangeAt_new (w.alloc (.cells (dcells D n).toArray 52)) tcells 56
    have h2 := World.rangeAt_alloc h (.cells (madeCells #[.string ⟨#[]⟩, .string ⟨#[]⟩, .int .i64 0, .string ⟨#[]⟩, .int .i64 0] (n * 5)) 32)
    simpa using h2
  there := by
    have h := there_made ((w.alloc (.cells (dcells D n).toArray 52)).alloc (.cells tcells.toArray 56)) #[.string ⟨#[]⟩, .string ⟨#[]⟩, .int .i64 0, .string ⟨#[]⟩, .int .i64 0] (n * 5) 32
    simpa using h
  rows := fun j hj => absurd hj (by omega)

theorem newRel_step {w wr : World} {D n k : Nat} {nm : Nat → ByteArray} (h : NewRel w D n nm k wr) (hk : k < n) (C : Array Value) (t : TypeId) :
    NewRel w D n nm (k + 1) ((wr.alloc (.cells C t)).setCells (w.heap.size + 1 + 1) (k * 5) (stepRow (nm k))) where
  below := below_setCells (by omega) _ _ _ (h.below.alloc h.below.size _)
  size := by rw [size_setCells]; have := h.size; simp; omega
  dbox := World.rangeAt_setCells_apart (World.rangeAt_alloc h.dbox _) _ _ _ (.inl (by omega))
  tbox := World.rangeAt_setCells_apart (World.rangeAt_alloc h.tbox _) _ _ _ (.inl (by omega))
  there := World.there_setCells (World.there_alloc h.there _) _ _ _
  rows := fun j hj => by
    by_cases e : j = k
    · subst e
      exact World.rangeAt_setCells_same _ _ _ _ (there_part (World.there_alloc h.there _) (by simp [stepRow]; omega))
    · refine World.rangeAt_setCells_apart (World.rangeAt_alloc (h.rows j (by omega)) _) _ _ _ (.inr (.inl ?_))
      simp [stepRow]; omega

/-- a saga's 22 cells: its lock free, its steps at T, the noted steps chg -/
def sagaRow (D T n R : Nat) (chg : Value) : List Value := [.string ⟨#[116, 120, 45, 49]⟩, .string ⟨#[]⟩, .string ⟨#[116, 120, 45, 49]⟩, .int .i64 0, .slice (some ⟨D, 0, none⟩) n n, .slice none 0 0, .string ⟨#[]⟩, .string ⟨#[]⟩, .string ⟨#[]⟩, .string ⟨#[]⟩,
  .int .u64 0, .int .i64 0, .pointer none, .int .i32 0, .int .u32 0, .string ⟨#[82, 85, 78, 78, 73, 78, 71]⟩, .string ⟨#[]⟩, .int .i64 0, .slice (some ⟨T, 0, none⟩) n n, chg, .pointer (some ⟨R, 0, none⟩), .nilFunc]

/-- what New leaves -/
def NewPost (w : World) (D n : Nat) (nm : Nat → ByteArray) (e : Ending) (w' : World) : Prop :=
  ∃ S T R, e = .returned (.pointer (some ⟨S, 0, none⟩)) ∧ w'.rangeAt S 0 (sagaRow D T n R (.slice none 0 0)) ∧ w'.there S 0 22 ∧ (∀ j, j < n → w'.rangeAt T (j * 5) (stepRow (nm j))) ∧ w'.there T 0 (n * 5) ∧
    Below w.heap.size w w' ∧ w.heap.size ≤ T ∧ T < S ∧ S < w'.heap.size

theorem there_new (w : World) (cs : List Value) (t : TypeId) : (w.alloc (.cells cs.toArray t)).there w.heap.size 0 cs.length := fun j hj => by
  rw [World.cell?_alloc_at (hn := rfl)]
  refine ⟨?_, by simp⟩
  simp [hj]

theorem newPost_of {w wr : World} {D n k : Nat} {nm : Nat → ByteArray} (h : NewRel w D n nm k wr) (hk : n ≤ k) :
    NewPost w D n nm (.returned (.pointer (some ⟨wr.heap.size + 1 + 1, 0, none⟩)))
      (((wr.alloc (.chan 0 #[] false 0 0 false)).alloc (.cells #[.chan (some wr.heap.size), .nilIface] 79)).alloc (.cells (sagaRow D (w.heap.size + 1 + 1) n (wr.heap.size + 1) (.slice none 0 0)).toArray 69)).drew := by
  have hz := h.size
  have hsz : ((wr.alloc (.chan 0 #[] false 0 0 false)).alloc (.cells #[.chan (some wr.heap.size), .nilIface] 79)).heap.size = wr.heap.size + 1 + 1 := by simp
  refine ⟨wr.heap.size + 1 + 1, w.heap.size + 1 + 1, wr.heap.size + 1, rfl, ?_, ?_, fun j hj => ?_, ?_, ?_, by omega, by omega, by simp⟩
  · rw [World.rangeAt_drew]
    have := rangeAt_new ((wr.alloc (.chan 0 #[] false 0 0 false)).alloc (.cells #[.chan (some wr.heap.size), .nilIface] 79)) (sagaRow D (w.heap.size + 1 + 1) n (wr.heap.size + 1) (.slice none 0 0)) 69
    rw [hsz] at this
    exact this
  · rw [World.there_drew]
    have := there_new ((wr.alloc (.chan 0 #[] false 0 0 false)).alloc (.cells #[.chan (some wr.heap.size), .nilIface] 79)) (sagaRow D (w.heap.size + 1 + 1) n (wr.heap.size + 1) (.slice none 0 0)) 69
    rw [hsz] at this
    exact this
  · rw [World.rangeAt_drew]
    exact World.rangeAt_alloc (World.rangeAt_alloc (World.rangeAt_alloc (h.rows j (by omega)) _) _) _
  · rw [World.there_drew]
    exact World.there_alloc (World.there_alloc (World.there_alloc h.there _) _) _
  · exact ((((h.below.alloc h.below.size _).alloc (by have := h.below.size; simp; omega) _)).alloc (by have := h.below.size; simp; omega) _).drew

theorem info58 : (Tryd.prog.info? 58).map (fun i => (i.zero, i.size, i.bytes)) = some (some (.agg #[]), 0, 0) := by kernel_rfl
theorem mkChan (w : World) : (Instr.makeChan 75 (.int .i64 0)).run Tryd.prog w = .ok (.chan (some w.heap.size)) (w.alloc (.chan 0 #[] false 0 0 false)) := by
  obtain ⟨i, hi, _, _, hb⟩ := info_parts info58
  simpa using Conc.run_makeChan (P := Tryd.prog) (w := w) Tryd.underlying75 hi .i64 0 (by omega) (by rw [hb]; omega)

theorem nine_cells {w : World} {b D n : Nat} (h : w.rangeAt b 0 (dcells D n)) : w.cell? ⟨b, 0, none⟩ = some (.string ⟨#[]⟩) ∧ w.cell? ⟨b, 1, none⟩ = some (.string ⟨#[116, 120, 45, 49]⟩) ∧ w.cell? ⟨b, 2, none⟩ = some (.int .i64 0) ∧
    w.cell? ⟨b, 3, none⟩ = some (.slice (some ⟨D, 0, none⟩) n n) ∧ w.cell? ⟨b, 4, none⟩ = some (.slice none 0 0) ∧ w.cell? ⟨b, 5, none⟩ = some (.string ⟨#[]⟩) ∧ w.cell? ⟨b, 6, none⟩ = some (.string ⟨#[]⟩) ∧ w.cell? ⟨b, 7, none⟩ = some (.string ⟨#[]⟩) ∧
    w.cell? ⟨b, 8, none⟩ = some (.string ⟨#[]⟩) :=
  ⟨h 0 _ rfl, h 1 _ rfl, h 2 _ rfl, h 3 _ rfl, h 4 _ rfl, h 5 _ rfl, h 6 _ rfl, h 7 _ rfl, h 8 _ rfl⟩
theorem three_cells {w : World} {b : Nat} (h : w.rangeAt b 0 tcells) : w.cell? ⟨b, 0, none⟩ = some (.int .u64 0) ∧ w.cell? ⟨b, 1, none⟩ = some (.int .i64 0) ∧ w.cell? ⟨b, 2, none⟩ = some (.pointer none) :=
  ⟨h 0 _ rfl, h 1 _ rfl, h 2 _ rfl⟩

set_option maxHeartbeats 400000 in
theorem new17 (D n : Nat) (nm : Nat → ByteArray) (w : World) (hn : n ≤ 131072) (hDw : D < w.heap.size) (hD : ∀ j, j < n → w.rangeAt D (j * 7) (defRow (nm j))) :
    Calls Tryd.prog 17 #[.string ⟨#[116, 120, 45, 49]⟩, .agg #[.string ⟨#[]⟩, .string ⟨#[]⟩, .int .i64 0, .slice (some ⟨D, 0, none⟩) n n, .slice none 0 0, .string ⟨#[]⟩, .string ⟨#[]⟩, .string ⟨#[]⟩, .string ⟨#[]⟩], .agg #[.int .u64 0, .int .i64 0, .pointer none]] w
      fun e w' => NewPost w D n nm e w' := by
  have hm := make32 n hn
  go_enter Tryd.func17, Tryd.ntmps17
  go_wp2
  clear hm
  go_loopw [22] (fun i wr => ∃ k : Nat, k ≤ n ∧ i = .int .i64 k ∧ NewRel w D n nm k wr) (fun i _ => n - (intOf i).toNat)
  case atStart => exact ⟨0, Nat.zero_le _, rfl, newRel_start w D n nm⟩
  case round =>
    obtain ⟨k, hk, rfl, hR⟩ := hrel
    by_cases hlt : k < n
    · have hld : wr.rangeAt D (k * 7) [.string (nm k), .string ⟨#[]⟩, .string ⟨#[]⟩, .int .i64 0, .int .i64 0, .int .i64 0, .bool false] := rangeAt_below (hD k hlt) hR.below hDw
      have hth : ∀ o, (wr.alloc o).there (w.heap.size + 1 + 1) (k * 5) 5 := fun o => there_part (World.there_alloc hR.there _) (by omega)
      have hnext := fun C t => newRel_step hR hlt C t
      unfold stepRow at hnext
      clear hR
      go_wp2_with (first | (with_reducible refine load_mid 44 D (k * 7) [.string (nm k), .string ⟨#[]⟩, .string ⟨#[]⟩, .int .i64 0, .int .i64 0, .int .i64 0, .bool false] Tryd.underlying44 rfl (by kernel_rfl) hld rfl ?_) | (with_reducible refine store_mid 32 (w.heap.size + 1 + 1) (k * 5) [.string (nm k), .string ⟨#[78, 79, 84, 95, 82, 85, 78]⟩, .int .i64 0, .string ⟨#[78, 79, 84, 95, 78, 69, 69, 68, 69, 68]⟩, .int .i64 0] (by kernel_rfl) (by simp [Value.oneCell']) (hth _) rfl rfl ?_))
      go_roundw
      case rel => exact ⟨k + 1, by omega, by go_num, hnext _ _⟩
      case measure => simp [intOf]; omega
    · obtain ⟨hd0, hd1, hd2, hd3, hd4, hd5, hd6, hd7, hd8⟩ := nine_cells hR.dbox
      obtain ⟨ht0, ht1, ht2⟩ := three_cells hR.tbox
      have hch := mkChan
      have hcl1 : ∀ (o : Obj) (p : Addr), p.block < wr.heap.size → (wr.alloc o).cell? p = wr.cell? p := fun o p hp => World.cell?_alloc_lt _ _ _ hp
      have hcl2 : ∀ (o o' : Obj) (p : Addr), p.block < wr.heap.size → ((wr.alloc o).alloc o').cell? p = wr.cell? p := fun o o' p hp => (World.cell?_alloc_lt _ _ _ (by simp; omega)).trans (hcl1 o p hp)
      have hz0 : w.heap.size < wr.heap.size := by have := hR.size; omega
      have hz1 : w.heap.size + 1 < wr.heap.size := by have := hR.size; omega
      go_wp2
      go_region
      go_wp2
      go_ret
      exact newPost_of hR (by omega)

end Go.Proofs.Qxb6615011aDoor
