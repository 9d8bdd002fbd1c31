/-
  The mask of 'LawS3576CRefines', and a row that is laid cell by cell: no Go in sight.
-/
import Derived.Test.YbulkbvaoKit
import Derived.Laws.BitsAllLaws
namespace Go.Proofs.Ybulkbvao
open Go.RowKit
/-- The mask: the low 28 bits. -/
def msk (z : Int) : Int := wrap32 (bits BinOp.and IntKind.u32 (z % 4294967296) 268435455)
theorem and_mask (a : Nat) : a &&& 268435455 ≤ 268435455 := Nat.and_le_right
theorem wrap_small (x : Nat) (h : x ≤ 268435455) : 0 ≤ wrap32 (x : Int) ∧ wrap32 (x : Int) ≤ 268435455 := by
  unfold wrap32; omega
theorem msk_bd (z : Int) : 0 ≤ msk z ∧ msk z ≤ 268435455 := by
  unfold msk
  obtain ⟨a, ha⟩ := Int.eq_ofNat_of_zero_le (show 0 ≤ z % 4294967296 by omega)
  have ha2 : a < 4294967296 := by omega
  rw [ha]
  have h := u32_and_nat a 268435455 ha2 (by omega)
  have e : ((268435455 : Nat) : Int) = 268435455 := by simp only [Int.cast_ofNat_Int]
  rw [e] at h
  rw [h]
  exact wrap_small _ (and_mask _)
theorem msk_at (zs : List Int) (j : Nat) : 0 ≤ (zs.map msk)[j]?.getD 0 ∧ (zs.map msk)[j]?.getD 0 ≤ 268435455 := by
  by_cases h : j < zs.length
  · have e : (zs.map msk)[j]?.getD 0 = msk zs[j] := by rw [List.getElem?_map, List.getElem?_eq_getElem h, Option.map_some, Option.getD_some]
    rw [e]
    exact msk_bd _
  · have e : (zs.map msk)[j]?.getD 0 = 0 := by rw [List.getElem?_map, List.getElem?_eq_none (by omega : zs.length ≤ j), Option.map_none, Option.getD_none]
    rw [e]
    omega
/-- The first k of l laid, noughts behind. -/
def laidN (l : List Int) (n k : Nat) : List Int := l.take k ++ List.replicate (n - k) 0
theorem laidN_length (l : List Int) (n k : Nat) (h : l.length = n) (hk : k ≤ n) : (laidN l n k).length = n := by simp [laidN]; omega
theorem laidN_step (l : List Int) (n k : Nat) (h : l.length = n) (hk : k < n) : (laidN l n k).set k (l[k]?.getD 0) = laidN l n (k + 1) := by
  unfold laidN
  have e : (List.replicate (n - k) (0 : Int)) = 0 :: List.replicate (n - (k + 1)) 0 := by
    rw [← List.replicate_succ]; congr 1; omega
  have hkl : k < l.length := by omega
  rw [e, List.take_succ_eq_append_getElem hkl]
  rw [List.set_append_right _ _ (by simp; omega)]
  have : k - (l.take k).length = 0 := by simp; omega
  rw [this]
  simp only [List.set_cons_zero, List.getElem?_eq_getElem hkl, Option.getD_some, List.append_assoc, List.singleton_append]
theorem laidN_full (l : List Int) (n : Nat) (h : l.length = n) : laidN l n n = l := by
  unfold laidN; rw [List.take_of_length_le (by omega)]; simp
theorem map_msk_at (zs : List Int) (k : Nat) (h : k < zs.length) : (zs.map msk)[k]?.getD 0 = msk (zs[k]?.getD 0) := by
  rw [List.getElem?_map, List.getElem?_eq_getElem h, Option.map_some, Option.getD_some, Option.getD_some]

end Go.Proofs.Ybulkbvao
