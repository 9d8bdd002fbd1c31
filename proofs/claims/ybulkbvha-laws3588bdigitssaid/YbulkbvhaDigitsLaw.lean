/-
  The plain law behind 'LawS3588BDigits': no Go in sight.
-/
import Derived.Test.YbulkbvhaDigits
namespace Go.Proofs.Ybulkbvha
open Go.RowKit

/-- The string's bytes, seven noughts behind them. -/
def S (zs : List Int) : List UInt8 := pad ((zs.map dnum).map fun n => UInt8.ofNat n.toNat)
def F (zs : List Int) (k : Nat) : Int := fold ((S zs).take k)

theorem S_length (zs : List Int) : (S zs).length = zs.length + 7 := by simp [S, pad]
theorem dg_dnum (z : Int) : dg (UInt8.ofNat (dnum z).toNat) = z % 10 := by
  unfold dg dnum
  have e : (UInt8.ofNat (48 + z % 10).toNat).toNat = (48 + z % 10).toNat := by
    rw [UInt8.toNat_ofNat']; omega
  rw [e]; omega
theorem S_in (zs : List Int) (k : Nat) (h : k < zs.length) : (S zs)[k]? = some (UInt8.ofNat (dnum (zs[k]?.getD 0)).toNat) := by
  unfold S pad
  rw [List.getElem?_append_left (by simpa using h)]
  simp [List.getElem?_eq_getElem h]
theorem S_out (zs : List Int) (k : Nat) (h : zs.length ≤ k) (h2 : k < zs.length + 7) : (S zs)[k]? = some 48 := by
  unfold S pad
  rw [List.getElem?_append_right (by simpa using h)]
  simp only [List.length_map]
  obtain ⟨j, rfl⟩ : ∃ j, k = zs.length + j := ⟨k - zs.length, by omega⟩
  simp only [Nat.add_sub_cancel_left]
  have : j < 7 := by omega
  match j, this with
  | 0, _ | 1, _ | 2, _ | 3, _ | 4, _ | 5, _ | 6, _ => rfl
theorem F_succ (zs : List Int) (k : Nat) (c : UInt8) (h : (S zs)[k]? = some c) : F zs (k + 1) = F zs k * 10 + dg c := by
  unfold F
  obtain ⟨hk, e⟩ := List.getElem?_eq_some_iff.1 h
  rw [List.take_succ_eq_append_getElem hk, fold_snoc, e]
theorem F_in (zs : List Int) (k : Nat) (h : k < zs.length) : F zs (k + 1) = F zs k * 10 + zs[k]?.getD 0 % 10 := by
  rw [F_succ zs k _ (S_in zs k h), dg_dnum]
theorem F_out (zs : List Int) (k : Nat) (h : zs.length ≤ k) (h2 : k < zs.length + 7) : F zs (k + 1) = F zs k * 10 := by
  rw [F_succ zs k _ (S_out zs k h h2), show dg 48 = 0 from by decide, Int.add_zero]
theorem F_bd (zs : List Int) (hz : ∀ j : Nat, 0 ≤ zs[j]?.getD 0 ∧ zs[j]?.getD 0 ≤ 255) : ∀ k, k ≤ 6 → 0 ≤ F zs k ∧ F zs k + 1 ≤ 10 ^ k := by
  intro k
  induction k with
  | zero => intro _; simp [F, fold]
  | succ k ih =>
    intro hk
    have := ih (by omega)
    have e : (10 : Int) ^ (k + 1) = 10 ^ k * 10 := by rw [Int.pow_succ]
    rw [e]
    by_cases h : k < zs.length
    · rw [F_in zs k h]
      have := hz k
      omega
    · rw [F_out zs k (by omega) (by omega)]
      omega
theorem F_le (zs : List Int) (hz : ∀ j : Nat, 0 ≤ zs[j]?.getD 0 ∧ zs[j]?.getD 0 ≤ 255) (k : Nat) (hk : k ≤ 6) : 0 ≤ F zs k ∧ F zs k ≤ 999999 := by
  have h := F_bd zs hz k hk
  refine ⟨h.1, ?_⟩
  have : (10 : Int) ^ k ≤ 1000000 := by
    match k, hk with
    | 0, _ | 1, _ | 2, _ | 3, _ | 4, _ | 5, _ | 6, _ => decide
  omega
theorem up6_in (zs : List Int) (h : 6 < zs.length) : up ((S zs).getD 6 0) = if (5 : Int) ≤ (zs[6]?.getD (0 : Int)) % 10 then 1 else 0 := by
  rw [List.getD_eq_getElem?_getD, S_in zs 6 h]
  generalize zs[6]?.getD 0 = z
  have e : (UInt8.ofNat (48 + z % 10).toNat).toNat = (48 + z % 10).toNat := by
    rw [UInt8.toNat_ofNat']; omega
  simp only [up, dnum, Option.getD_some, e]
  split <;> split <;> omega
theorem up6_out (zs : List Int) (h : zs.length ≤ 6) : up ((S zs).getD 6 0) = 0 := by
  rw [List.getD_eq_getElem?_getD, S_out zs 6 h (by omega)]
  decide
theorem micro_S (zs : List Int) : micro (strOfNums (zs.map dnum)).data.toList = F zs 6 + up ((S zs).getD 6 0) := rfl
end Go.Proofs.Ybulkbvha
