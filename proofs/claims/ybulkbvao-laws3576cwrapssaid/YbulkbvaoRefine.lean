/-
  'midpoint', 'onPoint', 'refine', 'zzs3576cfine' by contracts.
-/
import Derived.Test.YbulkbvaoRows
import Derived.Test.YbulkbvaoRefineLaw
import Derived.RegionTactic
import Derived.ChangeAlike
import Derived.Deep.QuietTactic
import Derived.BigQuiet
import Derived.Deep.RegionHeld3
namespace Go.Proofs.Ybulkbvao
open Go.RowKit

theorem mid_any (a b : Int) (w : World) :
    Calls Yba.prog 21 #[.int .i32 a, .int .i32 b] w fun e w' => e = .returned (.int .i32 (mid a b)) ∧ w' = w := by
  go_enter Yba.func21, Yba.ntmps21
  go_wp2
  go_ret
  exact ⟨rfl, rfl⟩
theorem onp_any (a b c : Int) (w : World) :
    Calls Yba.prog 22 #[.int .i32 a, .int .i32 b, .int .i32 c] w fun e w' => e = .returned (.int .i32 (onp a b c)) ∧ w' = w := by
  go_enter Yba.func22, Yba.ntmps22
  go_wp2
  go_ret
  exact ⟨ret_int (onp_eq a b c), rfl⟩

set_option maxHeartbeats 1000000 in
theorem refine_any (gf gc n m B : Nat) (cs fs : List Int) (w : World) (hn : cs.length = n) (hn2 : n ≤ 1024) (hm : m = cnt n) (hf : fs.length = m + 2) (hne : gf ≠ gc) (hB : B ≤ gf)
    (hRf : Row w gf 21 .i32 fs) (hRc : Row w gc 21 .i32 cs) :
    Calls Yba.prog 15 #[.slice (some ⟨gf, 0, none⟩) m (m + 2), .slice (some ⟨gc, 0, none⟩) n n] w fun e w' =>
      e = .returned (.tuple #[]) ∧ Row w' gf 21 .i32 (fin cs fs) ∧ Row w' gc 21 .i32 cs ∧ Below B w w' := by
  go_enter Yba.func15, Yba.ntmps15
  go_wp2
  go_loopw [9] (fun i wr => ∃ k : Nat, k ≤ n - 1 ∧ i = .int .i64 k ∧ Row wr gf 21 .i32 (ev cs fs k) ∧ Row wr gc 21 .i32 cs ∧ Below B w wr) (fun i _ => n - (intOf i).toNat)
  case atStart => exact ⟨0, Nat.zero_le _, rfl, hRf, hRc, Below.refl _ _⟩
  case round =>
    obtain ⟨k, hk, rfl, hRr, hCr, hBr⟩ := hrel
    clear hRf hRc
    by_cases hlt : k < n - 1
    · have hcm : m = 2 * n - 3 := by rw [hm]; unfold cnt; rw [if_pos (by omega)]
      have h0 := hCr.cell' k (by omega)
      have h1 := hCr.cell' (k + 1) (by omega)
      have h2 := hRr.cell' (2 * k) (by rw [ev_length]; omega)
      have h3 := hRr.free (2 * k)
      have hrow := hRr.store (2 * k) (mid (cs[k]?.getD 0) (cs[k + 1]?.getD 0))
      have hrowc := hCr.other (a := ⟨gf, 2 * k, none⟩) (fun e => hne e.symm) (.int .i32 (mid (cs[k]?.getD 0) (cs[k + 1]?.getD 0)))
      have hbl := hBr.setCell (p := ⟨gf, 2 * k, none⟩) hB (.int .i32 (mid (cs[k]?.getD 0) (cs[k + 1]?.getD 0)))
      generalize hx0 : cs[k]?.getD 0 = x0 at h0 hrow hrowc hbl
      generalize hx1 : cs[k + 1]?.getD 0 = x1 at h1 hrow hrowc hbl
      generalize (ev cs fs k)[2 * k]?.getD 0 = x2 at h2
      have HX0 : Hid _ := hx0
      have HX1 : Hid _ := hx1
      have HM : Hid _ := hm
      clear hRr hCr hBr hx0 hx1 hm
      have i0 : (k : Int) < (n : Int) := by omega
      have i1 : (k : Int) + 1 < (n : Int) := by omega
      have i2 : 2 * (k : Int) < (m : Int) := by omega
      have j1 : (0 : Int) ≤ (k : Int) + 1 := by omega
      have j2 : (0 : Int) ≤ 2 * (k : Int) := by omega
      have v1 : IntKind.i64.wrap ((k : Int) + 1) = (k : Int) + 1 := by rw [IntKind.wrap_i64]; omega
      have v2 : IntKind.i64.wrap (2 * (k : Int)) = 2 * (k : Int) := by rw [IntKind.wrap_i64]; omega
      have t1 : ((k : Int) + 1).toNat = k + 1 := by omega
      have t2 : (2 * (k : Int)).toNat = 2 * k := by omega
      clear hcm hlt hk hn hf
      go_wp2
      go_region_held3 (fun w' => w'.cell? ⟨gc, k, none⟩ = some (.int .i32 x0) ∧ w'.cell? ⟨gc, k + 1, none⟩ = some (.int .i32 x1)) (go_keep) ((go_at_call 21; refine (mid_any _ _ _).mono ?_; rintro e w' ⟨rfl, rfl⟩))
      go_wp2
      go_roundw
      case rel => exact ⟨k + 1, by omega, by go_num, hrow.drew.same (by simp only [ev]; rw [HX0.out, HX1.out]), hrowc.drew, hbl.drew⟩
      case measure => simp [intOf]; omega
    · obtain rfl : k = n - 1 := by omega
      clear hlt hk
      go_wp2
      go_loopw [30] (fun i wx => ∃ k : Nat, k ≤ n - 2 ∧ i = .int .i64 k ∧ Row wx gf 21 .i32 (od cs (ev cs fs (n - 1)) k) ∧ Row wx gc 21 .i32 cs ∧ Below B w wx) (fun i _ => n - (intOf i).toNat)
      case atStart => exact ⟨0, Nat.zero_le _, rfl, hRr, hCr, hBr⟩
      case round =>
        clear hRr hCr hBr
        obtain ⟨k, hk, rfl, hRr, hCr, hBr⟩ := hrel
        by_cases hlt : k < n - 2
        · have hcm : m = 2 * n - 3 := by rw [hm]; unfold cnt; rw [if_pos (by omega)]
          have h0 := hCr.cell' k (by omega)
          have h1 := hCr.cell' (k + 1) (by omega)
          have h4 := hCr.cell' (k + 2) (by omega)
          have h2 := hRr.cell' (2 * k + 1) (by rw [od_length, ev_length]; omega)
          have h3 := hRr.free (2 * k + 1)
          have hrow := hRr.store (2 * k + 1) (onp (cs[k]?.getD 0) (cs[k + 1]?.getD 0) (cs[k + 2]?.getD 0))
          have hrowc := hCr.other (a := ⟨gf, 2 * k + 1, none⟩) (fun e => hne e.symm) (.int .i32 (onp (cs[k]?.getD 0) (cs[k + 1]?.getD 0) (cs[k + 2]?.getD 0)))
          have hbl := hBr.setCell (p := ⟨gf, 2 * k + 1, none⟩) hB (.int .i32 (onp (cs[k]?.getD 0) (cs[k + 1]?.getD 0) (cs[k + 2]?.getD 0)))
          generalize hx0 : cs[k]?.getD 0 = x0 at h0 hrow hrowc hbl
          generalize hx1 : cs[k + 1]?.getD 0 = x1 at h1 hrow hrowc hbl
          generalize hx4 : cs[k + 2]?.getD 0 = x4 at h4 hrow hrowc hbl
          generalize (od cs (ev cs fs (n - 1)) k)[2 * k + 1]?.getD 0 = x2 at h2
          have HX0 : Hid _ := hx0
          have HX1 : Hid _ := hx1
          have HX4 : Hid _ := hx4
          have HM : Hid _ := hm
          clear hRr hCr hBr hx0 hx1 hx4 hm
          have i0 : (k : Int) < (n : Int) := by omega
          have i1 : (k : Int) + 1 < (n : Int) := by omega
          have i4 : (k : Int) + 2 < (n : Int) := by omega
          have i2 : 2 * (k : Int) + 1 < (m : Int) := by omega
          have j1 : (0 : Int) ≤ (k : Int) + 1 := by omega
          have j4 : (0 : Int) ≤ (k : Int) + 2 := by omega
          have j2 : (0 : Int) ≤ 2 * (k : Int) := by omega
          have j3 : (0 : Int) ≤ 2 * (k : Int) + 1 := by omega
          have v1 : IntKind.i64.wrap ((k : Int) + 1) = (k : Int) + 1 := by rw [IntKind.wrap_i64]; omega
          have v4 : IntKind.i64.wrap ((k : Int) + 2) = (k : Int) + 2 := by rw [IntKind.wrap_i64]; omega
          have v2 : IntKind.i64.wrap (2 * (k : Int)) = 2 * (k : Int) := by rw [IntKind.wrap_i64]; omega
          have v3 : IntKind.i64.wrap (2 * (k : Int) + 1) = 2 * (k : Int) + 1 := by rw [IntKind.wrap_i64]; omega
          have t1 : ((k : Int) + 1).toNat = k + 1 := by omega
          have t4 : ((k : Int) + 2).toNat = k + 2 := by omega
          have t2 : (2 * (k : Int)).toNat = 2 * k := by omega
          have t3 : (2 * (k : Int) + 1).toNat = 2 * k + 1 := by omega
          clear hcm hlt hk hn hf
          go_wp2
          go_region_held3 (fun w' => w'.cell? ⟨gc, k, none⟩ = some (.int .i32 x0) ∧ w'.cell? ⟨gc, k + 1, none⟩ = some (.int .i32 x1) ∧ w'.cell? ⟨gc, k + 2, none⟩ = some (.int .i32 x4)) (go_keep) ((go_at_call 22; refine (onp_any _ _ _ _).mono ?_; rintro e w' ⟨rfl, rfl⟩))
          go_wp2
          go_roundw
          case rel => exact ⟨k + 1, by omega, by go_num, hrow.drew.same (by simp only [od]; rw [HX0.out, HX1.out, HX4.out]), hrowc.drew, hbl.drew⟩
          case measure => simp [intOf]; omega
        · obtain rfl : k = n - 2 := by omega
          clear hlt hk
          go_wp2
          go_end0
          exact ⟨rfl, hRr.same (by unfold fin; rw [hn]), hCr, hBr⟩
end Go.Proofs.Ybulkbvao
