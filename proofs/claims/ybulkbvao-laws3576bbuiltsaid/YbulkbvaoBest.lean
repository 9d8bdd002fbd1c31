/-
  The plain side of the waitlist's laws: the greatest of a list that is at most q, or -1. No Go in sight.
-/
import Derived.Test.YbulkbvaoKit
namespace Go.Proofs.Ybulkbvao
open Go.RowKit

/-- What the model's loop holds: the best so far, and whether there is one. -/
def bm (q : Int) : List Int → Int × Bool
  | [] => (-1, false)
  | v :: r => if v ≤ q ∧ ((bm q r).2 = false ∨ (bm q r).1 < v) then (v, true) else bm q r
/-- The loop goes from the left: of the first k elements, the last one first. -/
def bmAt (q : Int) (zs : List Int) (k : Nat) : Int × Bool := bm q (zs.take k).reverse
theorem bmAt_zero (q : Int) (zs : List Int) : bmAt q zs 0 = (-1, false) := rfl
theorem bmAt_succ (q : Int) (zs : List Int) (k : Nat) (h : k < zs.length) :
    bmAt q zs (k + 1) = if zs[k]?.getD 0 ≤ q ∧ ((bmAt q zs k).2 = false ∨ (bmAt q zs k).1 < zs[k]?.getD 0) then (zs[k]?.getD 0, true) else bmAt q zs k := by
  unfold bmAt
  rw [List.take_succ_eq_append_getElem h, List.reverse_append]
  simp [bm, List.getElem?_eq_getElem h]

/-- r is the greatest of zs that is at most q, or -1 where there is none. -/
def IsBest (q : Int) (zs : List Int) (r : Int) : Prop :=
  (r ∈ zs ∧ r ≤ q ∧ ∀ v ∈ zs, v ≤ q → v ≤ r) ∨ (r = -1 ∧ ∀ v ∈ zs, ¬ v ≤ q)
theorem IsBest.unique {q : Int} {zs ys : List Int} {r s : Int} (h : IsBest q zs r) (k : IsBest q ys s) (hm : ∀ v, v ∈ zs ↔ v ∈ ys) : r = s := by
  rcases h with ⟨h1, h2, h3⟩ | ⟨h1, h2⟩ <;> rcases k with ⟨k1, k2, k3⟩ | ⟨k1, k2⟩
  · have a := h3 s ((hm s).2 k1) k2
    have b := k3 r ((hm r).1 h1) h2
    omega
  · exact absurd h2 (k2 r ((hm r).1 h1))
  · exact absurd k2 (h2 s ((hm s).2 k1))
  · omega
theorem bm_best (q : Int) (l : List Int) : ((bm q l).2 = true ∧ (bm q l).1 ∈ l ∧ (bm q l).1 ≤ q ∧ ∀ v ∈ l, v ≤ q → v ≤ (bm q l).1) ∨ ((bm q l).2 = false ∧ (bm q l).1 = -1 ∧ ∀ v ∈ l, ¬ v ≤ q) := by
  induction l with
  | nil => right; exact ⟨rfl, rfl, by simp⟩
  | cons v r ih =>
    unfold bm
    split
    · rename_i h
      left
      refine ⟨rfl, by simp, h.1, ?_⟩
      intro u hu huq
      rcases List.mem_cons.1 hu with rfl | hu
      · exact Int.le_refl _
      · rcases ih with ⟨e, _, _, i3⟩ | ⟨e, _, i2⟩
        · have := i3 u hu huq
          rcases h.2 with h2 | h2
          · rw [e] at h2; cases h2
          · show u ≤ v; omega
        · exact absurd huq (i2 u hu)
    · rename_i h
      rcases ih with ⟨e, i1, i2, i3⟩ | ⟨e, i1, i2⟩
      · left
        refine ⟨e, List.mem_cons_of_mem _ i1, i2, ?_⟩
        intro u hu huq
        rcases List.mem_cons.1 hu with rfl | hu
        · by_cases h' : (bm q r).1 < u
          · exact absurd ⟨huq, Or.inr h'⟩ h
          · omega
        · exact i3 u hu huq
      · right
        refine ⟨e, i1, ?_⟩
        intro u hu huq
        rcases List.mem_cons.1 hu with rfl | hu
        · exact h ⟨huq, Or.inl e⟩
        · exact i2 u hu huq
theorem bmAt_best (q : Int) (zs : List Int) : IsBest q zs (bmAt q zs zs.length).1 := by
  unfold bmAt
  rw [List.take_of_length_le (Nat.le_refl _)]
  rcases bm_best q zs.reverse with ⟨_, h1, h2, h3⟩ | ⟨_, h1, h2⟩
  · left
    exact ⟨by simpa using h1, h2, fun v hv => h3 v (by simpa using hv)⟩
  · right
    exact ⟨h1, fun v hv => h2 v (by simpa using hv)⟩

/-- Where the search stands: everything before p is less than t, everything from p on is not. -/
def Cut (zs : List Int) (t : Int) (p : Nat) : Prop := p ≤ zs.length ∧ (∀ k, k < p → zs[k]?.getD 0 < t) ∧ ∀ k, p ≤ k → k < zs.length → t ≤ zs[k]?.getD 0
theorem getD_mem {zs : List Int} {k : Nat} (h : k < zs.length) : zs[k]?.getD 0 ∈ zs := by
  rw [List.getElem?_eq_getElem h]; exact List.getElem_mem h
theorem mem_getD {zs : List Int} {v : Int} (h : v ∈ zs) : ∃ k, k < zs.length ∧ zs[k]?.getD 0 = v := by
  obtain ⟨k, hk, e⟩ := List.getElem_of_mem h
  exact ⟨k, hk, by rw [List.getElem?_eq_getElem hk]; exact e⟩
/-- The answer of atMost. -/
def ans (zs : List Int) (t : Int) (p : Nat) : Int := if p < zs.length ∧ zs[p]?.getD 0 = t then t else if 0 < p then zs[p - 1]?.getD 0 else -1
theorem ans_best {zs : List Int} {t : Int} {p : Nat} (hs : ∀ i j, i ≤ j → j < zs.length → zs[i]?.getD 0 ≤ zs[j]?.getD 0) (h : Cut zs t p) : IsBest t zs (ans zs t p) := by
  obtain ⟨hp, h1, h2⟩ := h
  unfold ans
  split
  · rename_i h
    left
    exact ⟨h.2 ▸ getD_mem h.1, Int.le_refl _, fun v _ hv => hv⟩
  · rename_i hn
    have key : ∀ v ∈ zs, v ≤ t → ∃ k, k < p ∧ zs[k]?.getD 0 = v := by
      intro v hv hvt
      obtain ⟨k, hk, e⟩ := mem_getD hv
      by_cases hkp : k < p
      · exact ⟨k, hkp, e⟩
      · have a := h2 k (by omega) hk
        have b := hs p k (by omega) hk
        have c := h2 p (Nat.le_refl _) (by omega)
        exact absurd ⟨by omega, by omega⟩ hn
    split
    · rename_i h0
      left
      refine ⟨getD_mem (by omega), Int.le_of_lt (h1 (p - 1) (by omega)), ?_⟩
      intro v hv hvt
      obtain ⟨k, hk, e⟩ := key v hv hvt
      rw [← e]
      exact hs k (p - 1) (by omega) (by omega)
    · right
      refine ⟨rfl, ?_⟩
      intro v hv hvt
      obtain ⟨k, hk, _⟩ := key v hv hvt
      omega
end Go.Proofs.Ybulkbvao
