/-
  The callees of the two laws over 'microseconds': 'modulo', 'number', 'microseconds', each by a contract.
-/
import Derived.Test.YbulkbvhaRows
import Derived.WalkKit
import Derived.WalkSpells
import Derived.ProofKit
import Derived.OpenShut
import Derived.ShutString
import Derived.Lib.Strings
namespace Go.Proofs.Ybulkbvha
open Go.RowKit

/-! ### THE PLAIN FUNCTIONS -/
/-- The byte c less '0', wrapping. -/
def dg (c : UInt8) : Int := ((c.toNat : Int) - 48) % 256
theorem dg_bd (c : UInt8) : 0 ≤ dg c ∧ dg c ≤ 255 := by unfold dg; omega
/-- Folded in base ten. -/
def fold (l : List UInt8) : Int := l.foldl (fun a c => a * 10 + dg c) 0
theorem fold_snoc (l : List UInt8) (c : UInt8) : fold (l ++ [c]) = fold l * 10 + dg c := by simp [fold]
/-- ten to the k, by plain recursion on the six cases that we want. -/
def cap : Nat → Int
  | 0 => 0
  | k + 1 => cap k * 10 + 255
theorem fold_bd (l : List UInt8) : 0 ≤ fold l ∧ fold l ≤ cap l.length := by
  suffices ∀ r : List UInt8, 0 ≤ fold r.reverse ∧ fold r.reverse ≤ cap r.length by simpa using this l.reverse
  intro r
  induction r with
  | nil => simp [fold, cap]
  | cons c r ih =>
    have := dg_bd c
    simp only [List.reverse_cons, fold_snoc, List.length_cons, cap]
    omega
theorem cap6 : cap 6 = 28333305 := by decide
theorem cap_mono (a b : Nat) (h : a ≤ b) : cap a ≤ cap b := by
  induction b with
  | zero => simp at h; subst h; exact Int.le_refl _
  | succ b ih =>
    by_cases e : a = b + 1
    · subst e; exact Int.le_refl _
    · have := ih (by omega)
      have h0 : 0 ≤ cap b := by clear ih this h e; induction b with
        | zero => decide
        | succ b ih => simp only [cap]; omega
      simp only [cap]; omega
theorem fold_le6 (l : List UInt8) (h : l.length ≤ 6) : 0 ≤ fold l ∧ fold l ≤ 28333305 := by
  have := fold_bd l
  have h2 := cap_mono _ _ h
  rw [cap6] at h2
  omega
theorem take_snoc (s : ByteArray) (k : Nat) (h : k < s.size) : s.data.toList.take (k + 1) = s.data.toList.take k ++ [s[k]] := by
  rw [List.take_succ_eq_append_getElem (by simpa using h)]; rfl

theorem ret_int {k : IntKind} {a b : Int} (h : a = b) : Ending.returned (.int k a) = .returned (.int k b) := by rw [h]

set_option maxHeartbeats 400000 in
theorem modulo_any (s : ByteArray) (w : World) (hs : s.size ≤ 6) :
    Calls Yba.prog 8 #[.string s] w fun e w' => e = .returned (.int .u64 (fold s.data.toList)) ∧ w' = w := by
  go_enter Yba.func8, Yba.ntmps8
  go_wp2
  go_loop [3, 7] (fun n i => ∃ k : Nat, k ≤ s.size ∧ i = .int .i64 k ∧ n = .int .u64 (fold (s.data.toList.take k))) (fun _ i => s.size - (intOf i).toNat)
  case atStart => exact ⟨0, Nat.zero_le _, rfl, rfl⟩
  case round =>
    obtain ⟨k, hk, rfl, rfl⟩ := hrel
    have hd := fold_le6 (s.data.toList.take k) (by simp; omega)
    by_cases hlt : k < s.size
    · have HS : Hid (fold (s.data.toList.take (k + 1)) = fold (s.data.toList.take k) * 10 + ((s[k].toNat : Int) - 48) % 256) := by rw [take_snoc s k hlt, fold_snoc]; rfl
      go_wp2
      go_round
      case rel => exact ⟨k + 1, by omega, by go_num, by rw [HS.out]⟩
      case measure => simp [intOf]; omega
    · go_wp2
      go_ret
      exact ⟨ret_int (by rw [List.take_of_length_le (by simp; omega)]), rfl⟩

theorem number_any (s : ByteArray) (w : World) (hs : s.size ≤ 6) :
    Calls Yba.prog 7 #[.string s] w fun e w' => e = .returned (.int .i64 (fold s.data.toList)) ∧ w' = w := by
  have hd := fold_le6 s.data.toList (by simpa using hs)
  go_enter Yba.func7, Yba.ntmps7
  go_wp2_with (go_at_call 8; refine (modulo_any _ _ hs).mono ?_; rintro e w' ⟨rfl, rfl⟩)
  go_ret
  exact ⟨rfl, rfl⟩

/-- Seven noughts behind it. -/
def pad (l : List UInt8) : List UInt8 := l ++ [48, 48, 48, 48, 48, 48, 48]
def up (c : UInt8) : Int := if 53 ≤ (c.toNat : Int) then 1 else 0
theorem up_yes {c : UInt8} (h : 53 ≤ (c.toNat : Int)) : up c = 1 := by simp [up]; omega
theorem up_no {c : UInt8} (h : (c.toNat : Int) < 53) : up c = 0 := by simp [up]; omega
theorem up_bd (c : UInt8) : 0 ≤ up c ∧ up c ≤ 1 := by unfold up; split <;> omega
def micro (l : List UInt8) : Int := fold ((pad l).take 6) + up ((pad l).getD 6 0)

theorem pad_data (s : ByteArray) : (s ++ { data := #[48, 48, 48, 48, 48, 48, 48] } : ByteArray).data.toList = pad s.data.toList := by
  simp [pad]
theorem pad_size (s : ByteArray) : (s ++ { data := #[48, 48, 48, 48, 48, 48, 48] } : ByteArray).size = s.size + 7 := by rw [ByteArray.size_append]; rfl
theorem pad_at (s : ByteArray) (h : 6 < (s ++ { data := #[48, 48, 48, 48, 48, 48, 48] } : ByteArray).size) : (s ++ { data := #[48, 48, 48, 48, 48, 48, 48] } : ByteArray)[6]'h = (pad s.data.toList).getD 6 0 := by
  rw [← pad_data]
  have h2 : 6 < (s ++ { data := #[48, 48, 48, 48, 48, 48, 48] } : ByteArray).data.toList.length := by simp
  rw [List.getD_eq_getElem?_getD, List.getElem?_eq_getElem h2]
  rfl

set_option maxHeartbeats 400000 in
theorem micros_any (s : ByteArray) (w : World) (hs : s.size ≤ 4096) :
    Calls Yba.prog 6 #[.string s] w fun e w' => e = .returned (.int .i64 (micro s.data.toList)) ∧ w' = w := by
  have hn := number_any ((s ++ { data := #[48, 48, 48, 48, 48, 48, 48] } : ByteArray).extract 0 6) w (by rw [ByteArray.size_extract, pad_size]; omega)
  have e0 : ((s ++ { data := #[48, 48, 48, 48, 48, 48, 48] } : ByteArray).extract 0 6).data.toList = (pad s.data.toList).take 6 := by
    simp [pad, List.take_append]
  rw [e0] at hn
  have hF := fold_le6 ((pad s.data.toList).take 6) (by simp; omega)
  unfold micro
  generalize fold ((pad s.data.toList).take 6) = F at hn hF ⊢
  clear e0
  go_enter Yba.func6, Yba.ntmps6
  go_wp2_with (go_at_call 7; refine hn.mono ?_; rintro e w' ⟨rfl, rfl⟩)
  · have h6 : 6 < (s ++ { data := #[48, 48, 48, 48, 48, 48, 48] } : ByteArray).size := by rw [pad_size]; omega
    have hy : (53 : Int) ≤ ((s ++ { data := #[48, 48, 48, 48, 48, 48, 48] } : ByteArray)[6]'h6).toNat := by assumption
    rw [pad_at s h6] at hy
    go_ret
    exact ⟨ret_int (by rw [up_yes hy]), rfl⟩
  · have h6 : 6 < (s ++ { data := #[48, 48, 48, 48, 48, 48, 48] } : ByteArray).size := by rw [pad_size]; omega
    have hy : (((s ++ { data := #[48, 48, 48, 48, 48, 48, 48] } : ByteArray)[6]'h6).toNat : Int) < 53 := by assumption
    rw [pad_at s h6] at hy
    go_ret
    exact ⟨ret_int (by rw [up_no hy]; omega), rfl⟩
end Go.Proofs.Ybulkbvha
