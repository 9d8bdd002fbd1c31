/-
  The plain side of 'newWaitlist': a sorted list, each value once. No Go in sight.
-/
import Derived.Test.YbulkbvaoBest
import Derived.Sort.Statements
namespace Go.Proofs.Ybulkbvao
open Go.RowKit

/-- Is v to be added? -/
def adds (L : List Int) (v : Int) : Bool := decide (L.length = 0 ∨ L[L.length - 1]?.getD 0 ≠ v)
/-- The lengths after k of the values vs. -/
def dd (vs : List Int) : Nat → List Int
  | 0 => []
  | k + 1 => if adds (dd vs k) (vs[k]?.getD 0) = true then dd vs k ++ [vs[k]?.getD 0] else dd vs k
theorem dd_length_le (vs : List Int) (k : Nat) : (dd vs k).length ≤ k := by
  induction k with
  | zero => simp [dd]
  | succ k ih =>
    simp only [dd]
    split
    · simp; omega
    · omega
theorem dd_mem (vs : List Int) (k : Nat) (hk : k ≤ vs.length) (v : Int) : v ∈ dd vs k ↔ v ∈ vs.take k := by
  induction k with
  | zero => simp [dd]
  | succ k ih =>
    have hkl : k < vs.length := by omega
    have ih := ih (by omega)
    have e : vs[k]?.getD 0 = vs[k] := by rw [List.getElem?_eq_getElem hkl]; rfl
    rw [List.take_succ_eq_append_getElem hkl, List.mem_append, ← ih, ← e]
    simp only [dd]
    split
    · simp
    · rename_i h
      have h' : ¬ ((dd vs k).length = 0 ∨ (dd vs k)[(dd vs k).length - 1]?.getD 0 ≠ vs[k]?.getD 0) := by
        intro hh; exact h (decide_eq_true hh)
      have h0 : (dd vs k).length ≠ 0 := fun h0 => h' (Or.inl h0)
      have h1 : (dd vs k)[(dd vs k).length - 1]?.getD 0 = vs[k]?.getD 0 := by
        rcases Decidable.em ((dd vs k)[(dd vs k).length - 1]?.getD 0 = vs[k]?.getD 0) with h | h
        · exact h
        · exact absurd (Or.inr h) h'
      have hm : vs[k]?.getD 0 ∈ dd vs k := by
        rw [← h1]; exact getD_mem (by omega)
      constructor
      · exact Or.inl
      · rintro (h | h)
        · exact h
        · obtain rfl : v = vs[k]?.getD 0 := by simpa using h
          exact hm
theorem dd_pairwise (vs : List Int) (hs : ∀ i j : Nat, i ≤ j → j < vs.length → vs[i]?.getD 0 ≤ vs[j]?.getD 0) (k : Nat) (hk : k ≤ vs.length) : (dd vs k).Pairwise (· ≤ ·) := by
  induction k with
  | zero => simp [dd]
  | succ k ih =>
    have ih := ih (by omega)
    simp only [dd]
    split
    · rw [List.pairwise_append]
      refine ⟨ih, by simp, ?_⟩
      intro a ha b hb
      obtain rfl : b = vs[k]?.getD 0 := by simpa using hb
      have := (dd_mem vs k (by omega) a).1 ha
      obtain ⟨i, hi, e⟩ := List.getElem_of_mem this
      have hik : i < k := by simp at hi; omega
      have e2 : vs[i]?.getD 0 = a := by
        rw [List.getElem?_eq_getElem (by omega)]
        rw [← e, List.getElem_take]; rfl
      rw [← e2]
      exact hs i k (by omega) (by omega)
    · exact ih
theorem dd_sorted (vs : List Int) (hs : ∀ i j : Nat, i ≤ j → j < vs.length → vs[i]?.getD 0 ≤ vs[j]?.getD 0) (i j : Nat) (hij : i ≤ j) (hj : j < (dd vs vs.length).length) :
    (dd vs vs.length)[i]?.getD 0 ≤ (dd vs vs.length)[j]?.getD 0 := by
  have hp := dd_pairwise vs hs vs.length (Nat.le_refl _)
  rw [List.getElem?_eq_getElem hj, List.getElem?_eq_getElem (show i < (dd vs vs.length).length by omega)]
  by_cases e : i = j
  · subst e; exact Int.le_refl _
  · exact List.pairwise_iff_getElem.1 hp i j (by omega) hj (by omega)
theorem dd_same (vs : List Int) (v : Int) : v ∈ dd vs vs.length ↔ v ∈ vs := by
  rw [dd_mem vs vs.length (Nat.le_refl _), List.take_of_length_le (Nat.le_refl _)]
end Go.Proofs.Ybulkbvao
