/-
  The plain side of 'refine': no Go in sight.
-/
import Derived.Test.YbulkbvaoKit
namespace Go.Proofs.Ybulkbvao
open Go.RowKit

def mid (a b : Int) : Int := wrap32 (a + b) / 2
def onp (a b c : Int) : Int := wrap32 (a + 6 * b + c) / 8
theorem onp_eq (a b c : Int) : wrap32 (wrap32 (a + wrap32 (6 * b)) + c) / 8 = onp a b c := by
  unfold onp wrap32; omega

/-- fine's cells after k rounds of the first loop. -/
def ev (cs fs : List Int) : Nat → List Int
  | 0 => fs
  | k + 1 => (ev cs fs k).set (2 * k) (mid (cs[k]?.getD 0) (cs[k + 1]?.getD 0))
/-- .. and after k rounds of the second, begun at gs. -/
def od (cs gs : List Int) : Nat → List Int
  | 0 => gs
  | k + 1 => (od cs gs k).set (2 * k + 1) (onp (cs[k]?.getD 0) (cs[k + 1]?.getD 0) (cs[k + 2]?.getD 0))
theorem ev_length (cs fs : List Int) (k : Nat) : (ev cs fs k).length = fs.length := by
  induction k with
  | zero => rfl
  | succ k ih => simp [ev, ih]
theorem od_length (cs gs : List Int) (k : Nat) : (od cs gs k).length = gs.length := by
  induction k with
  | zero => rfl
  | succ k ih => simp [od, ih]
theorem ev_at (cs fs : List Int) (k j : Nat) (hj : j < fs.length) :
    (ev cs fs k)[j]?.getD 0 = if j % 2 = 0 ∧ j / 2 < k then mid (cs[j / 2]?.getD 0) (cs[j / 2 + 1]?.getD 0) else fs[j]?.getD 0 := by
  induction k with
  | zero => simp [ev]
  | succ k ih =>
    simp only [ev]
    rw [List.getElem?_set]
    by_cases e : 2 * k = j
    · subst e
      rw [if_pos rfl, if_pos (by rw [ev_length]; exact hj), if_pos (by omega), Nat.mul_div_cancel_left _ (by omega)]
      rfl
    · rw [if_neg e, ih]
      by_cases h : j % 2 = 0 ∧ j / 2 < k
      · rw [if_pos h, if_pos (by omega)]
      · rw [if_neg h, if_neg (by omega)]
theorem od_at (cs gs : List Int) (k j : Nat) (hj : j < gs.length) :
    (od cs gs k)[j]?.getD 0 = if j % 2 = 1 ∧ j / 2 < k then onp (cs[j / 2]?.getD 0) (cs[j / 2 + 1]?.getD 0) (cs[j / 2 + 2]?.getD 0) else gs[j]?.getD 0 := by
  induction k with
  | zero => simp [od]
  | succ k ih =>
    simp only [od]
    rw [List.getElem?_set]
    by_cases e : 2 * k + 1 = j
    · subst e
      rw [if_pos rfl, if_pos (by rw [od_length]; exact hj), if_pos (by omega), show (2 * k + 1) / 2 = k by omega]
      rfl
    · rw [if_neg e, ih]
      by_cases h : j % 2 = 1 ∧ j / 2 < k
      · rw [if_pos h, if_pos (by omega)]
      · rw [if_neg h, if_neg (by omega)]
/-- How many values refine sets. -/
def cnt (n : Nat) : Nat := if 2 ≤ n then 2 * n - 3 else 0
/-- What fine holds in the end. -/
def fin (cs fs : List Int) : List Int := od cs (ev cs fs (cs.length - 1)) (cs.length - 2)
theorem fin_length (cs fs : List Int) : (fin cs fs).length = fs.length := by simp [fin, od_length, ev_length]
theorem fin_even (cs fs : List Int) (hl : fs.length = cnt cs.length + 2) (j : Nat) (hj : j < cnt cs.length) (he : j % 2 = 0) :
    (fin cs fs)[j]?.getD 0 = mid (cs[j / 2]?.getD 0) (cs[j / 2 + 1]?.getD 0) := by
  have h2 : 2 ≤ cs.length := by unfold cnt at hj; split at hj <;> omega
  have hc : cnt cs.length = 2 * cs.length - 3 := by unfold cnt; rw [if_pos h2]
  unfold fin
  rw [od_at _ _ _ _ (by rw [ev_length]; omega), if_neg (by omega), ev_at _ _ _ _ (by omega), if_pos (by omega)]
theorem fin_odd (cs fs : List Int) (hl : fs.length = cnt cs.length + 2) (j : Nat) (hj : j < cnt cs.length) (he : j % 2 = 1) :
    (fin cs fs)[j]?.getD 0 = onp (cs[j / 2]?.getD 0) (cs[j / 2 + 1]?.getD 0) (cs[j / 2 + 2]?.getD 0) := by
  have h2 : 2 ≤ cs.length := by unfold cnt at hj; split at hj <;> omega
  have hc : cnt cs.length = 2 * cs.length - 3 := by unfold cnt; rw [if_pos h2]
  unfold fin
  rw [od_at _ _ _ _ (by rw [ev_length]; omega), if_pos (by omega)]
theorem fin_past (cs fs : List Int) (hl : fs.length = cnt cs.length + 2) (j : Nat) (hj : cnt cs.length ≤ j) (hj2 : j < cnt cs.length + 2) :
    (fin cs fs)[j]?.getD 0 = fs[j]?.getD 0 := by
  have hc : (2 ≤ cs.length ∧ cnt cs.length = 2 * cs.length - 3) ∨ (cs.length < 2 ∧ cnt cs.length = 0) := by
    unfold cnt; split <;> omega
  unfold fin
  rw [od_at _ _ _ _ (by rw [ev_length]; omega), if_neg (by omega), ev_at _ _ _ _ (by omega), if_neg (by omega)]
end Go.Proofs.Ybulkbvao
