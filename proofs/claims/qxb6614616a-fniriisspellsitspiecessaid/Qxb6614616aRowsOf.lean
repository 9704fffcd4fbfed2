/- The law's own bookkeeping: the bound on lengths, the text that is wanted, its bytes in memory. -/
import Derived.Test.Qxb6614616aIs
namespace Go.Proofs.Qxb6614616a
open Go.ChangeShapes Go.WideShapes Go.ChangeAt Go.RowKit
set_option linter.unusedVariables false

/-- The n strings nm lie in the slice whose address is ad. -/
def StrsAt (w : World) (ad : Option Addr) (n : Nat) (nm : Nat → ByteArray) : Prop :=
  (n = 0 ∨ ∃ b o, ad = some ⟨b, o, none⟩ ∧ ∀ j, j < n → w.cell? ⟨b, o + j, none⟩ = some (.string (nm j))) ∧ ∀ j, j < n → (nm j).size ≤ maxLen

theorem strs_one {w : World} {ad : Option Addr} {n : Nat} {nm : Nat → ByteArray} (h : StrsAt w ad n nm) (j : Nat) (hj : j < n) : ∃ b o, ad = some ⟨b, o, none⟩ ∧ w.cell? ⟨b, o + j, none⟩ = some (.string (nm j)) := by
  rcases h.1 with h0 | ⟨b, o, e, hc⟩
  · omega
  · exact ⟨b, o, e, hc j hj⟩

/-- it answers a bool; where it says true, no part is long -/
def BytesSay (n : Nat) (nm : Nat → ByteArray) (e : Ending) : Prop := ∃ r : Bool, e = .returned (.bool r) ∧ (r = true → ∀ j, j < n → (nm j).size ≤ 1048576)

set_option maxHeartbeats 1000000 in
theorem bytes6 (ad : Option Addr) (n c : Nat) (nm : Nat → ByteArray) (t s : ByteArray) (w : World) (hn : n ≤ 8796093022207) (ht : t.size ≤ maxLen) (hs : s.size ≤ maxLen) (hv : StrsAt w ad n nm) :
    Calls Try.prog 6 #[.slice ad n c, .string t, .string s] w fun e w' => BytesSay n nm e ∧ w' = w := by
  obtain ⟨hv, hm⟩ := hv
  unfold maxLen at hm ht hs
  by_cases h1 : n ≤ 1048576
  · go_enter Try.func6, Try.ntmps6
    go_wp2
    go_loop [7, 8] (fun t i => ∃ (k : Nat) (r : Int), k ≤ n ∧ i = .int .i64 k ∧ t = .int .i64 r ∧ 0 ≤ r ∧ r ≤ 1048576 ∧ ∀ j, j < k → (nm j).size ≤ 1048576) (fun _ i => n - (intOf i).toNat)
    case atStart => exact ⟨0, _, by omega, rfl, rfl, by omega, by omega, fun j hj => absurd hj (by omega)⟩
    case round =>
      obtain ⟨k, r, hk, rfl, rfl, hr, hr', hsm⟩ := hrel
      have HS : Hid (∀ j, j < k → (nm j).size ≤ 1048576) := hsm
      clear hsm
      by_cases hlt : k < n
      · rcases hv with h0 | ⟨b, o, rfl, hc⟩
        · exact absurd hlt (by omega)
        have hck := hc k hlt
        have hsk := hm k hlt
        clear hm hc
        go_wp2
        · go_ret
          exact ⟨⟨_, rfl, fun h => by cases h⟩, rfl⟩
        · go_ret
          exact ⟨⟨_, rfl, fun h => by cases h⟩, rfl⟩
        · go_round
          case rel => exact ⟨k + 1, _, by omega, by go_num, rfl, by omega, by omega, fun j hj => by
            by_cases e : j = k
            · subst e; omega
            · exact HS.out j (by omega)⟩
          case measure => simp [intOf]; omega
      · clear hv hm
        go_wp2
        all_goals
          go_ret
          exact ⟨⟨_, rfl, fun _ j hj => HS.out j (by omega)⟩, rfl⟩
  · clear hv hm
    go_enter Try.func6, Try.ntmps6
    go_wp2
    go_ret
    exact ⟨⟨_, rfl, fun h => by cases h⟩, rfl⟩

/-- the first k parts, one after another -/
def joined (nm : Nat → ByteArray) : Nat → List UInt8
  | 0 => []
  | k + 1 => joined nm k ++ (nm k).data.toList
/-- what the law counts over the first k parts -/
def tot (nm : Nat → ByteArray) : Nat → Nat
  | 0 => 0
  | k + 1 => tot nm k + (16 + (nm k).size)

theorem joined_len (nm : Nat → ByteArray) (k : Nat) : (joined nm k).length ≤ tot nm k := by
  induction k with
  | zero => simp [joined, tot]
  | succ k ih =>
    rw [joined, tot, List.length_append, Lib.size_eq]; omega
theorem tot_mono (nm : Nat → ByteArray) {k n : Nat} (h : k ≤ n) : tot nm k ≤ tot nm n := by
  induction n with
  | zero => obtain rfl : k = 0 := by omega
            exact Nat.le_refl _
  | succ n ih =>
    by_cases e : k = n + 1
    · rw [e]; exact Nat.le_refl _
    · have := ih (by omega)
      rw [tot]; omega

/-- bytes as cells -/
def byteVs (l : List UInt8) : List Value := l.map fun b => Value.int .u8 b.toNat
theorem byteVs_step (nm : Nat → ByteArray) (k : Nat) : byteVs (joined nm k) ++ Lib.strCells (nm k) = byteVs (joined nm (k + 1)) := by
  unfold byteVs Lib.strCells
  rw [joined, List.map_append]

theorem info5 : (Try.prog.info? 5).map (fun i => (i.zero, i.size, i.bytes)) = some (some (.int .u8 0), 1, 1) := by kernel_rfl

theorem make_cap (m : Nat) (z : Int) (hz : z = m) (hm : m ≤ 1048576) (w : World) :
    (Instr.makeSlice 30 (.int .i64 0) (.int .i64 z)).run Try.prog w = .ok (.slice (some ⟨w.heap.size, 0, none⟩) 0 m) (w.alloc (.cells (madeCells #[.int .u8 0] m) 5)) := by
  subst hz
  obtain ⟨i, hi, hz, hs, hb⟩ := info_parts info5
  have hr := run_make (P := Try.prog) w 30 5 i _ Try.underlying30 hi hz .i64 .i64 0 m (by omega) (by omega) (by rw [hb]; omega) (by omega)
  rw [hr, hs]
  simp
  rfl

/-- the row that the law makes: its first cells hold xs -/
def Wants (w : World) (g cap : Nat) (xs : List UInt8) : Prop := w.ownsRow g 5 1 (.slice (some ⟨g, 0, none⟩) xs.length cap) xs.length (byteVs xs)

theorem wants_start (w : World) (m : Nat) (hm : m ≤ 1048576) : Wants (w.alloc (.cells (madeCells #[.int .u8 0] m) 5)) w.heap.size m [] := by
  refine ⟨by simp [byteVs], .inr ⟨w.heap.size, m, madeCells #[.int .u8 0] m, rfl, Nat.le_refl _, heap_alloc_new _ _, Nat.zero_le _, by unfold maxLen; omega, by simp [madeCells], by simp [byteVs]⟩⟩

theorem run_more {w : World} {g cap : Nat} {xs : List UInt8} (h : Wants w g cap xs) (s : ByteArray) (hroom : xs.length + s.size ≤ cap) (ty : TypeId) :
    ∃ w', (Builtin.append_ #[30, 9] ty #[.slice (some ⟨g, 0, none⟩) xs.length cap, .string s]).run Try.prog w = .ok (.slice (some ⟨g, 0, none⟩) (xs.length + s.size) cap) w' ∧ Wants w' g cap (xs ++ s.data.toList) ∧ Below g w w' := by
  obtain ⟨i, hi, hz, hs, hb⟩ := info_parts info5
  rcases h.2 with ⟨hv, _⟩ | ⟨g', cap', cur, hv, hbg, hg, hnc, hcm, hcs, htake⟩
  · cases hv
  · cases hv
    have hcs' : cur.size = cap := by simpa using hcs
    have hr := Lib.run_append_room_string (P := Try.prog) w 30 9 ty 5 i Try.underlying30 Try.underlying9 hi hs g xs.length cap cur hg s hroom (by omega)
    have ht' : cur.toList.take xs.length = byteVs xs := by simpa using htake
    have el : (xs ++ s.data.toList).length = xs.length + s.size := by rw [List.length_append, Lib.size_eq]
    have ev : byteVs (xs ++ s.data.toList) = byteVs xs ++ Lib.strCells s := by unfold byteVs Lib.strCells; rw [List.map_append]
    have elb : (byteVs xs ++ Lib.strCells s).length = xs.length + s.size := by rw [← ev]; unfold byteVs; rw [List.length_map, el]
    refine ⟨_, hr, ?_, ⟨rfl, rfl, rfl, by simp, fun k hk => setRow_other w g k _ (by omega)⟩⟩
    unfold Wants
    rw [el, ev]
    refine ⟨by rw [elb, Nat.mul_one], .inr ⟨g, cap, _, rfl, Nat.le_refl _, setRow_heap w g cur _ 5 _ hg, hroom, hcm, ?_, ?_⟩⟩
    · simp only [List.size_toArray, List.length_append, List.length_take, List.length_drop, Array.length_toList, Lib.strCells_length]
      omega
    · rw [ht', Nat.mul_one, ← elb]
      exact List.take_left

theorem wp_more {ops : Array Oper} {rest : List Oper} {o : Oper} {a : Act} {w : World} {Q : Exit → Act → World → Prop} (hgd : o.guard = none) (sl x : Operand)
    (ho : o.op = .call { callee := .builtin .append, args := #[sl, x], argTypes := #[30, 9] }) {g cap : Nat} {xs : List UInt8} (hw : Wants w g cap xs) (hs : a.eval sl = .slice (some ⟨g, 0, none⟩) xs.length cap) (s : ByteArray)
    (hx : a.eval x = .string s) (hroom : xs.length + s.size ≤ cap)
    (h : ∀ w', Wants w' g cap (xs ++ s.data.toList) → Below g w w' → wpList Try.prog ops Q rest (a.put o.dst (.slice (some ⟨g, 0, none⟩) (xs.length + s.size) cap)) w') : wpList Try.prog ops Q (o :: rest) a w := by
  refine wpList_plain hgd fun K hK => ?_
  obtain ⟨w', hr, h2, h3⟩ := run_more hw s hroom o.type
  unfold Oper.wp execOp
  simp only [ho, resolve, invoke, builtin, Sem.run_bind, Sem.run_pure, Result.andThen_ok, List.map_toArray, List.map_cons, List.map_nil, hs, hx, hr]
  exact hK _ _ (h w' h2 h3)

/-- the bytes as a string -/
theorem conv_wants {w : World} {g cap : Nat} {xs : List UInt8} (h : Wants w g cap xs) : (convert 30 9 (.slice (some ⟨g, 0, none⟩) xs.length cap)).run Try.prog w = .ok (.string ⟨xs.toArray⟩) w := by
  refine run_convert_bytes_back (P := Try.prog) w 30 9 5 ⟨g, 0, none⟩ cap xs Try.underlying30 Try.underlying5 Try.underlying9 (fun j hj => ?_)
  have := h.cellAt j (by omega)
  rw [Addr.add_lit, Nat.zero_add, this]
  simp [byteVs, hj]
end Go.Proofs.Qxb6614616a
