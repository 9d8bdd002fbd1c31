/-
  The callee 'zzs3588bdigitstring' by a contract.
-/
import Derived.Test.YbulkbvhaMicros
import Derived.Test.YbulkbvhaKit
import Derived.OpenShut
namespace Go.Proofs.Ybulkbvha
open Go.RowKit

/-- The slice's n elements are the numbers zs (where there is one: its address is plain and its cells hold them). -/
def Elems (k : IntKind) (w : World) (a : Option Addr) (n : Nat) (zs : List Int) : Prop :=
  zs.length = n ∧ (0 < n → ∃ b off, a = some ⟨b, off, none⟩ ∧ b < w.heap.size ∧ ∀ i, i < n → w.cell? ⟨b, off + i, none⟩ = some (.int k (zs[i]?.getD 0)))

/-- What a digit of data becomes as a number of the string's byte. -/
def dnum (z : Int) : Int := 48 + z % 10
/-- The bytes after k rounds. -/
def D (zs : List Int) (k : Nat) : List Int := (zs.take k).map dnum ++ List.replicate (zs.length - k) 0
theorem D_zero (zs : List Int) : D zs 0 = List.replicate zs.length 0 := by simp [D]
theorem D_full (zs : List Int) : D zs zs.length = zs.map dnum := by simp [D]
theorem D_length (zs : List Int) (k : Nat) : (D zs k).length = zs.length := by simp [D]; omega
theorem D_step (zs : List Int) (k : Nat) (h : k < zs.length) : (D zs k).set k (48 + zs[k]?.getD 0 % 10) = D zs (k + 1) := by
  unfold D
  have e : (List.replicate (zs.length - k) (0 : Int)) = 0 :: List.replicate (zs.length - (k + 1)) 0 := by
    rw [← List.replicate_succ]; congr 1; omega
  rw [e, List.take_succ_eq_append_getElem h, List.map_append]
  have hl : ((zs.take k).map dnum).length = k := by simp; omega
  rw [List.set_append_right _ _ (by omega), hl, Nat.sub_self]
  simp [dnum, List.getElem?_eq_getElem h]

theorem Yba.info5 : (Yba.prog.info? 5).map (fun i => (i.zero, i.size, i.bytes)) = some (some (.int .u8 0), 1, 1) := by kernel_rfl

set_option maxHeartbeats 800000 in
theorem digits_any (a : Option Addr) (n c : Nat) (zs : List Int) (w : World) (hn : n ≤ 1024) (hz : ∀ j : Nat, 0 ≤ zs[j]?.getD 0 ∧ zs[j]?.getD 0 ≤ 255) (hE : Elems .u8 w a n zs) :
    Calls Yba.prog 5 #[.slice a n c] w fun e w' => e = .returned (.string (strOfNums (zs.map dnum))) ∧ Below w.heap.size w w' := by
  obtain ⟨hlen, hE⟩ := hE
  go_enter Yba.func5, Yba.ntmps5
  go_wp2_with (at_make; refine wpList_make_row _ rfl _ _ 22 rfl 5 .u8 1 Yba.underlying22 Yba.info5 .i64 .i64 _ _ n rfl rfl rfl rfl (by omega) (by unfold maxLen; omega) ?_; intro w1 hR hB hS)
  go_loopw [4] (fun i wr => ∃ k : Nat, k ≤ n ∧ i = .int .i64 k ∧ Row wr w.heap.size 5 .u8 (D zs k) ∧ Below w.heap.size w wr) (fun i _ => n - (intOf i).toNat)
  case atStart => exact ⟨0, Nat.zero_le _, rfl, hR.same (by rw [D_zero, hlen]), hB⟩
  case round =>
    obtain ⟨k, hk, rfl, hRr, hBr⟩ := hrel
    clear hR hB hS
    by_cases hlt : k < n
    · obtain ⟨b, off, rfl, hb, hc⟩ := hE (by omega)
      have hcx : wr.cell? ⟨b, off + k, none⟩ = some (.int .u8 (zs[k]?.getD 0)) := (hBr.cell (p := ⟨b, off + k, none⟩) hb).trans (hc k hlt)
      have hzk := hz k
      have hst := D_step zs k (by omega)
      have hcd : wr.cell? ⟨w.heap.size, k, none⟩ = some (.int .u8 ((D zs k)[k]?.getD 0)) := hRr.cell' k (by rw [D_length]; omega)
      have hfd := hRr.free k
      generalize zs[k]?.getD 0 = z at hcx hzk hst
      generalize (D zs k)[k]?.getD 0 = z2 at hcd
      have hrow := hRr.store k (48 + z % 10)
      rw [hst] at hrow
      have hbl := hBr.setCell (p := ⟨w.heap.size, k, none⟩) (Nat.le_refl _) (.int .u8 (48 + z % 10))
      clear hst hRr hBr hz hE hc
      go_wp2
      go_roundw
      case rel => exact ⟨k + 1, by omega, by go_num, hrow, hbl⟩
      case measure => simp [intOf]; omega
    · obtain rfl : k = n := by omega
      have hcv := run_convert_bytes_arg (P := Yba.prog) wr 22 5 Yba.underlying22 Yba.underlying5 w.heap.size 0 k k (zs.map dnum) (by simpa using hlen) (fun i hi => by
        have := hRr.cell i (by rw [D_length]; omega)
        rw [← hlen, D_full] at this
        simpa using this) 9 Yba.underlying9
      go_wp2
      go_ret
      exact ⟨rfl, hBr⟩
end Go.Proofs.Ybulkbvha
