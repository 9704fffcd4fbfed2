/- Plain facts: how often an index occurs, and the distinct indices in the order of their first occurrence. -/
import Derived.Test.Qxb6615011aDoorUpdate
namespace Go.Proofs.Qxb6615011aDoor
open Go.RowKit
set_option linter.unusedVariables false

/-- the distinct indices, in the order of their first occurrence -/
def firsts (l : List Nat) : List Nat := l.foldl noted []

theorem take_snoc (l : List Nat) (k : Nat) (h : k < l.length) : l.take (k + 1) = l.take k ++ [l[k]] := by
  rw [List.take_succ_eq_append_getElem h]

theorem inL_snoc (m : List Nat) (x j : Nat) : inL (m ++ [x]) j = (inL m j || decide (j = x)) := by
  unfold inL; simp
theorem inL_step (l : List Nat) (k j : Nat) (h : k < l.length) : inL (l.take (k + 1)) j = (inL (l.take k) j || decide (j = l[k])) := by
  rw [take_snoc l k h, inL_snoc]

theorem firsts_snoc (l : List Nat) (j : Nat) : firsts (l ++ [j]) = noted (firsts l) j := by
  unfold firsts; rw [List.foldl_append]; rfl

theorem firsts_step (l : List Nat) (k : Nat) (h : k < l.length) : firsts (l.take (k + 1)) = noted (firsts (l.take k)) l[k] := by
  rw [take_snoc l k h, firsts_snoc]

theorem mem_noted (l : List Nat) (j x : Nat) : x ∈ noted l j ↔ x ∈ l ∨ x = j := by
  unfold noted inL
  by_cases h : j ∈ l
  · have : l.contains j = true := by simpa using h
    rw [this, if_pos rfl]
    constructor
    · exact fun hx => .inl hx
    · rintro (hx | rfl)
      · exact hx
      · exact h
  · have : l.contains j = false := by simpa using h
    rw [this]
    simp

theorem mem_foldl (l acc : List Nat) (x : Nat) : x ∈ l.foldl noted acc ↔ x ∈ acc ∨ x ∈ l := by
  induction l generalizing acc with
  | nil => simp
  | cons y ys ih =>
    rw [List.foldl_cons, ih, mem_noted]
    simp only [List.mem_cons]
    constructor
    · rintro ((h | h) | h)
      · exact .inl h
      · exact .inr (.inl h)
      · exact .inr (.inr h)
    · rintro (h | h | h)
      · exact .inl (.inl h)
      · exact .inl (.inr h)
      · exact .inr h

theorem mem_firsts (l : List Nat) (x : Nat) : x ∈ firsts l ↔ x ∈ l := by unfold firsts; rw [mem_foldl]; simp

theorem inL_firsts (l : List Nat) (x : Nat) : inL (firsts l) x = inL l x := by
  unfold inL
  rw [List.contains_eq_mem, List.contains_eq_mem]
  exact decide_eq_decide.2 (mem_firsts l x)

theorem firsts_old (l : List Nat) (k : Nat) (h : k < l.length) (hin : inL (l.take k) l[k] = true) : firsts (l.take (k + 1)) = firsts (l.take k) := by
  rw [firsts_step l k h]; unfold noted; rw [inL_firsts, hin, if_pos rfl]
theorem firsts_new (l : List Nat) (k : Nat) (h : k < l.length) (hin : inL (l.take k) l[k] = false) : firsts (l.take (k + 1)) = firsts (l.take k) ++ [l[k]] := by
  rw [firsts_step l k h]; unfold noted; rw [inL_firsts, hin]; rfl

theorem length_noted (l : List Nat) (j : Nat) : (noted l j).length ≤ l.length + 1 := by
  unfold noted; split <;> simp

theorem length_foldl (l acc : List Nat) : (l.foldl noted acc).length ≤ acc.length + l.length := by
  induction l generalizing acc with
  | nil => simp
  | cons y ys ih =>
    rw [List.foldl_cons, List.length_cons]
    have h1 := ih (noted acc y)
    have h2 := length_noted acc y
    omega

theorem length_firsts (l : List Nat) : (firsts l).length ≤ l.length := by
  have := length_foldl l []
  unfold firsts; simpa using this

theorem nodup_noted (l : List Nat) (j : Nat) (h : l.Nodup) : (noted l j).Nodup := by
  unfold noted inL
  by_cases e : j ∈ l
  · have : l.contains j = true := by simpa using e
    rw [this, if_pos rfl]; exact h
  · have : l.contains j = false := by simpa using e
    rw [this]
    simp only [Bool.false_eq_true, if_false]
    rw [List.nodup_append]
    refine ⟨h, by simp, fun a ha b hb => ?_⟩
    simp only [List.mem_singleton] at hb
    subst hb
    intro hh
    subst hh
    exact e ha

theorem nodup_foldl (l acc : List Nat) (h : acc.Nodup) : (l.foldl noted acc).Nodup := by
  induction l generalizing acc with
  | nil => exact h
  | cons y ys ih => rw [List.foldl_cons]; exact ih _ (nodup_noted acc y h)

theorem nodup_firsts (l : List Nat) : (firsts l).Nodup := nodup_foldl l [] List.nodup_nil

/-- a list without repeats: what stands at k is not among those before it -/
theorem inL_take_nodup (l : List Nat) (k : Nat) (h : k < l.length) (hn : l.Nodup) : inL (l.take k) l[k] = false := by
  unfold inL
  rw [List.contains_eq_mem, decide_eq_false_iff_not]
  intro hm
  obtain ⟨i, hi, he⟩ := List.mem_iff_getElem.1 hm
  rw [List.length_take] at hi
  rw [List.getElem_take] at he
  exact (List.pairwise_iff_getElem.1 hn i k (by omega) h (by omega)) he

/-- NOT_RUN -/
def nrS : ByteArray := ⟨#[78, 79, 84, 95, 82, 85, 78]⟩
/-- the last action set at j by the first k updates -/
def lastA (l : List Nat) (ac : Nat → ByteArray) : Nat → Nat → ByteArray
  | 0, _ => nrS
  | k + 1, j => if l.getD k 0 = j then ac k else lastA l ac k j

theorem lastA_step (l : List Nat) (ac : Nat → ByteArray) (k j : Nat) (h : k < l.length) : lastA l ac (k + 1) j = if j = l[k] then ac k else lastA l ac k j := by
  have e : l.getD k 0 = l[k] := by simp [List.getD, h]
  rw [lastA, e]
  by_cases hj : l[k] = j
  · rw [if_pos hj, if_pos hj.symm]
  · rw [if_neg hj, if_neg (fun h => hj h.symm)]

/-- a step's five cells when the first k updates are done -/
def rowA (nm : Nat → ByteArray) (l : List Nat) (ac : Nat → ByteArray) (k j : Nat) : List Value := [.string (nm j), .string (lastA l ac k j), .int .i64 0, .string ⟨#[78, 79, 84, 95, 78, 69, 69, 68, 69, 68]⟩, .int .i64 0]

theorem rowA_zero (nm : Nat → ByteArray) (l : List Nat) (ac : Nat → ByteArray) : rowA nm l ac 0 = fun j => stepRow (nm j) := rfl
theorem rowA_step (nm : Nat → ByteArray) (l : List Nat) (ac : Nat → ByteArray) (k : Nat) (h : k < l.length) : actTo (rowA nm l ac k) l[k] (ac k) = rowA nm l ac (k + 1) := by
  funext j
  unfold actTo
  by_cases e : j = l[k]
  · rw [if_pos e, e]
    simp [rowA, lastA_step l ac k _ h]
  · rw [if_neg e]
    simp [rowA, lastA_step l ac k _ h, e]
theorem rowA_one (nm : Nat → ByteArray) (l : List Nat) (ac : Nat → ByteArray) (k j : Nat) : (rowA nm l ac k j)[1]? = some (.string (lastA l ac k j)) := rfl
end Go.Proofs.Qxb6615011aDoor
