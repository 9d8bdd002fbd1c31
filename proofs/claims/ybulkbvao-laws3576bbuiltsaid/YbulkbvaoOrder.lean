/-
  The row of indices that 'newWaitlist' sorts, before and after. No walk in it.
-/
import Derived.Test.YbulkbvaoSorted
import Derived.Test.YbulkbvaoDedup
import Derived.Test.YbulkbvaoMask
namespace Go.Proofs.Ybulkbvao
open Go.RowKit Go.Sort

def ids (n : Nat) : List Int := (List.range n).map (fun i : Nat => (i : Int))
theorem ids_length (n : Nat) : (ids n).length = n := by simp [ids]
theorem ids_at (n k : Nat) (h : k < n) : (ids n)[k]?.getD 0 = (k : Int) := by simp [ids, h]
def allF (n : Nat) : Array (Fin (n + 1)) := Array.ofFn (fun i : Fin (n + 1) => i)
theorem allF_size (n : Nat) : (allF n).size = n + 1 := by simp [allF]
theorem allF_at (n j : Nat) (h : j < n + 1) : (allF n)[j]! = ⟨j, h⟩ := by
  rw [getElem!_pos _ j (by rw [allF_size]; exact h)]
  simp [allF]
theorem holds_all {w : World} {g n : Nat} (h : Row w g 3 .i64 (ids (n + 1))) : Holds (encF n) w g 0 (allF n) := by
  intro j hj
  rw [allF_size] at hj
  refine ⟨?_, by rw [Nat.zero_add]; exact h.free j⟩
  rw [Nat.zero_add, allF_at n j hj, h.cell' j (by rw [ids_length]; exact hj), ids_at _ _ hj]
  rfl
/-- The indices as numbers. -/
def nums (n : Nat) (d : Array (Fin (n + 1))) : List Int := d.toList.map (fun x => (x.val : Int))
theorem nums_length (n : Nat) (d : Array (Fin (n + 1))) : (nums n d).length = d.size := by simp [nums]
theorem nums_at (n : Nat) (d : Array (Fin (n + 1))) (j : Nat) (h : j < d.size) : (nums n d)[j]?.getD 0 = ((d[j]!).val : Int) := by
  rw [getElem!_pos d j h]
  simp [nums, h]
theorem row_sorted {w : World} {g n q : Nat} {d : Array (Fin (n + 1))} {os : Array Obj} (h : Row w g 3 .i64 (ids (n + 1))) (hd : d.size = n + 1) : Row (sortWorld (encF n) w g 0 q d os) g 3 .i64 (nums n d) := by
  have hg := h.lt
  unfold Row at h ⊢
  unfold sortWorld
  rw [heap_grow_old _ _ (by simpa using hg)]
  simp only [putRow, mapBlock, heap_ahead, Array.getElem?_modify, if_true, h, Option.map_some, onCells]
  congr 2
  apply Array.ext
  · simp [putCells, nums_length, ids_length, hd]
  · intro i h1 h2
    have hi : i < n + 1 := by simpa [putCells, ids_length] using h1
    simp only [putCells, Array.getElem_mapIdx, Nat.zero_le, Nat.zero_add, true_and, Nat.sub_zero]
    rw [if_pos (by omega)]
    have := nums_at n d i (by omega)
    simp only [List.getElem_toArray, List.getElem_map]
    rw [List.getElem?_eq_getElem (by rw [nums_length]; omega)] at this
    simp only [Option.getD_some] at this
    rw [this]
    rfl
/-- The moves in the order of the indices. -/
def vals (ms : List Int) (n : Nat) (d : Array (Fin (n + 1))) : List Int := d.toList.map (fun x => ms[x.val]?.getD 0)
theorem vals_length (ms : List Int) (n : Nat) (d : Array (Fin (n + 1))) : (vals ms n d).length = d.size := by simp [vals]
theorem vals_at (ms : List Int) (n : Nat) (d : Array (Fin (n + 1))) (j : Nat) (h : j < d.size) : (vals ms n d)[j]?.getD 0 = ms[(d[j]!).val]?.getD 0 := by
  rw [getElem!_pos d j h]
  simp [vals, h]
theorem vals_sorted (ms : List Int) (n : Nat) (d : Array (Fin (n + 1))) (hs : SortedIn (ltOf (cfF ms n)) 0 d.size d) (i j : Nat) (hij : i ≤ j) (hj : j < (vals ms n d).length) :
    (vals ms n d)[i]?.getD 0 ≤ (vals ms n d)[j]?.getD 0 := by
  rw [vals_length] at hj
  rw [vals_at _ _ _ _ (by omega), vals_at _ _ _ _ hj]
  by_cases e : i = j
  · subst e; exact Int.le_refl _
  · have := hs i j (Nat.zero_le _) (by omega) hj
    rw [cfF_lt] at this
    have := of_decide_eq_false this
    omega
theorem vals_mem (ms : List Int) (n : Nat) (d : Array (Fin (n + 1))) (hm : ms.length = n + 1) (hp : PermIn 0 (allF n).size (allF n) d) (v : Int) : v ∈ vals ms n d ↔ v ∈ ms := by
  have h2 := hp.2.2
  have hsz : d.size = n + 1 := hp.1.trans (allF_size n)
  rw [Array.extract_eq_self_of_le (by rw [allF_size]; omega), Array.extract_eq_self_of_le (Nat.le_refl _)] at h2
  unfold vals
  rw [List.mem_map]
  constructor
  · rintro ⟨x, _, rfl⟩
    exact getD_mem (by rw [hm]; exact x.isLt)
  · intro hv
    obtain ⟨k, hk, e⟩ := mem_getD hv
    refine ⟨⟨k, by omega⟩, (h2.mem_iff).2 ?_, e⟩
    have hks : k < (allF n).size := by rw [allF_size]; omega
    have h3 := allF_at n k (by omega)
    rw [getElem!_pos _ k hks] at h3
    rw [← h3]
    exact Array.mem_toList_iff.2 (Array.getElem_mem hks)
end Go.Proofs.Ybulkbvao
