/- Plain facts: how often an index occurs, and the distinct indices in the order of their first occurrence. -/
import Derived.Test.Qxb6615011aUpdate
namespace Go.Proofs.Qxb6615011a
open Go.RowKit
set_option linter.unusedVariables false

/-- the distinct indices, in the order of their first occurrence -/
def firsts (l : List Nat) : List Nat := l.foldl noted []
/-- how often j occurs among the first k -/
def cntK (l : List Nat) (k j : Nat) : Int := ((l.take k).count j : Nat)

theorem take_snoc (l : List Nat) (k : Nat) (h : k < l.length) : l.take (k + 1) = l.take k ++ [l[k]] := by
  rw [List.take_succ_eq_append_getElem h]

theorem inL_snoc (m : List Nat) (x j : Nat) : inL (m ++ [x]) j = (inL m j || decide (j = x)) := by
  unfold inL; simp
theorem inL_step (l : List Nat) (k j : Nat) (h : k < l.length) : inL (l.take (k + 1)) j = (inL (l.take k) j || decide (j = l[k])) := by
  rw [take_snoc l k h, inL_snoc]

theorem firsts_snoc (l : List Nat) (j : Nat) : firsts (l ++ [j]) = noted (firsts l) j := by
  unfold firsts; rw [List.foldl_append]; rfl

theorem firsts_step (l : List Nat) (k : Nat) (h : k < l.length) : firsts (l.take (k + 1)) = noted (firsts (l.take k)) l[k] := by
  rw [take_snoc l k h, firsts_snoc]

theorem mem_noted (l : List Nat) (j x : Nat) : x ∈ noted l j ↔ x ∈ l ∨ x = j := by
  unfold noted inL
  by_cases h : j ∈ l
  · have : l.contains j = true := by simpa using h
    rw [this, if_pos rfl]
    constructor
    · exact fun hx => .inl hx
    · rintro (hx | rfl)
      · exact hx
      · exact h
  · have : l.contains j = false := by simpa using h
    rw [this]
    simp

theorem mem_foldl (l acc : List Nat) (x : Nat) : x ∈ l.foldl noted acc ↔ x ∈ acc ∨ x ∈ l := by
  induction l generalizing acc with
  | nil => simp
  | cons y ys ih =>
    rw [List.foldl_cons, ih, mem_noted]
    simp only [List.mem_cons]
    constructor
    · rintro ((h | h) | h)
      · exact .inl h
      · exact .inr (.inl h)
      · exact .inr (.inr h)
    · rintro (h | h | h)
      · exact .inl (.inl h)
      · exact .inl (.inr h)
      · exact .inr h

theorem mem_firsts (l : List Nat) (x : Nat) : x ∈ firsts l ↔ x ∈ l := by unfold firsts; rw [mem_foldl]; simp

theorem inL_firsts (l : List Nat) (x : Nat) : inL (firsts l) x = inL l x := by
  unfold inL
  rw [List.contains_eq_mem, List.contains_eq_mem]
  exact decide_eq_decide.2 (mem_firsts l x)

theorem firsts_old (l : List Nat) (k : Nat) (h : k < l.length) (hin : inL (l.take k) l[k] = true) : firsts (l.take (k + 1)) = firsts (l.take k) := by
  rw [firsts_step l k h]; unfold noted; rw [inL_firsts, hin, if_pos rfl]
theorem firsts_new (l : List Nat) (k : Nat) (h : k < l.length) (hin : inL (l.take k) l[k] = false) : firsts (l.take (k + 1)) = firsts (l.take k) ++ [l[k]] := by
  rw [firsts_step l k h]; unfold noted; rw [inL_firsts, hin]; rfl

theorem length_noted (l : List Nat) (j : Nat) : (noted l j).length ≤ l.length + 1 := by
  unfold noted; split <;> simp

theorem length_foldl (l acc : List Nat) : (l.foldl noted acc).length ≤ acc.length + l.length := by
  induction l generalizing acc with
  | nil => simp
  | cons y ys ih =>
    rw [List.foldl_cons, List.length_cons]
    have h1 := ih (noted acc y)
    have h2 := length_noted acc y
    omega

theorem length_firsts (l : List Nat) : (firsts l).length ≤ l.length := by
  have := length_foldl l []
  unfold firsts; simpa using this

theorem cntK_zero (l : List Nat) (j : Nat) : cntK l 0 j = 0 := by simp [cntK]
theorem cntK_nonneg (l : List Nat) (k j : Nat) : 0 ≤ cntK l k j := by unfold cntK; omega
theorem cntK_le (l : List Nat) (k j : Nat) : cntK l k j ≤ l.length := by
  unfold cntK
  have h1 := List.count_le_length (a := j) (l := l.take k)
  have h2 := List.length_take_le k l
  have h3 : (l.take k).length ≤ l.length := List.length_take_le' k l
  omega
theorem cntK_step (l : List Nat) (k j : Nat) (h : k < l.length) : cntK l (k + 1) j = if j = l[k] then cntK l k j + 1 else cntK l k j := by
  unfold cntK
  rw [take_snoc l k h, List.count_append, List.count_singleton]
  by_cases e : j = l[k]
  · simp [e]
  · have : (l[k] == j) = false := by simpa using fun h => e h.symm
    rw [this]
    simp [e]

/-- a step's five cells when the first k updates are done -/
def rowK (nm : Nat → ByteArray) (l : List Nat) (k j : Nat) : List Value := [.string (nm j), .string ⟨#[78, 79, 84, 95, 82, 85, 78]⟩, .int .i64 (cntK l k j), .string ⟨#[78, 79, 84, 95, 78, 69, 69, 68, 69, 68]⟩, .int .i64 0]

theorem rowK_zero (nm : Nat → ByteArray) (l : List Nat) : rowK nm l 0 = fun j => stepRow (nm j) := by
  funext j; simp [rowK, stepRow, cntK_zero]
theorem rowK_step (nm : Nat → ByteArray) (l : List Nat) (k : Nat) (h : k < l.length) : bump (rowK nm l k) l[k] (cntK l k l[k]) = rowK nm l (k + 1) := by
  funext j
  unfold bump
  by_cases e : j = l[k]
  · rw [if_pos e, e]
    simp [rowK, cntK_step l k _ h]
  · rw [if_neg e]
    simp [rowK, cntK_step l k _ h, e]
theorem rowK_two (nm : Nat → ByteArray) (l : List Nat) (k j : Nat) : (rowK nm l k j)[2]? = some (.int .i64 (cntK l k j)) := rfl
end Go.Proofs.Qxb6615011a
