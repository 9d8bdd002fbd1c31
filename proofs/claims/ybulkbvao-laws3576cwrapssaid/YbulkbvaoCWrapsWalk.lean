/-
  The walk of 'LawS3576CWraps'.
-/
import Derived.Test.YbulkbvaoFine
import Derived.Test.YbulkbvaoCopy
namespace Go.Proofs.Ybulkbvao
open Go.RowKit
theorem Yba.size21 : (Yba.prog.info? 21).map (·.size) = some 1 := by kernel_rfl
theorem below_dN' {B : Nat} {a w : World} (h : Below B a w) (n : Nat) : Below B a (w.drewN n) := ⟨h.os, h.tape, h.output, h.size, h.block⟩

theorem mid_wrap (a b : Int) : mid a b = wrap32 ((a + b) % 4294967296) / 2 := by
  unfold mid wrap32; omega
theorem onp_wrap (a b c : Int) : onp a b c = wrap32 ((a + 6 * (b % 4294967296) + c) % 4294967296) / 8 := by
  unfold onp wrap32; omega

set_option maxHeartbeats 2000000 in
set_option maxRecDepth 100000 in
theorem cwraps_any (a : Option Addr) (n c : Nat) (zs : List Int) (s : Int) (w : World) (hn : n ≤ 1024) (hz : ∀ j : Nat, -2147483648 ≤ zs[j]?.getD 0 ∧ zs[j]?.getD 0 ≤ 2147483647) (hE : Elems .i32 w a n zs) :
    Calls Yba.prog 7 #[.slice a n c, .int .i32 s] w fun e w' => e = .returned (.bool true) ∧ Below w.heap.size w w' := by
  have hlen := hE.1
  go_enter Yba.func7, Yba.ntmps7
  go_wp2_with (at_make; refine wpList_make_row _ rfl _ _ 22 rfl 21 .i32 4 Yba.underlying22 Yba.info21' .i64 .i64 _ _ n rfl rfl rfl rfl (by omega) (by unfold maxLen; omega) ?_)
  intro w1 hR1 hB1 hS1
  have HS1 : Hid _ := hS1
  clear hS1
  have hE1 : Elems .i32 w1 a n zs := ⟨hE.1, fun h0 => by
    obtain ⟨b, off, e, hb, hc⟩ := hE.2 h0
    exact ⟨b, off, e, by have := hB1.size; omega, fun i hi => (hB1.cell (p := ⟨b, off + i, none⟩) hb).trans (hc i hi)⟩⟩
  have HE : Hid _ := hE
  have HE1 : Hid _ := hE1
  clear hE hE1
  go_wp2_with (refine wpList_copy_all rfl (.tmp 21) (.tmp 22) 22 rfl 21 .i32 Yba.underlying22 Yba.size21 w.heap.size n c a rfl rfl (List.replicate n 0) zs hR1 (by simp) HE1.out w.heap.size w hB1 (Nat.le_refl _) ?_)
  intro w2 hRa hBz
  clear hR1 hB1 HS1 HE1 w1
  obtain ⟨m, hm⟩ : ∃ m, m = cnt n := ⟨_, rfl⟩
  have hF := fine_any n m s w2 hn hm
  have hmb : m ≤ 2045 := by rw [hm]; unfold cnt; split <;> omega
  have HM : Hid _ := hm
  clear hm
  have hw1 := hRa.lt
  go_wp2_with (first | (go_at_call 14; refine hF.mono ?_; rintro e w3 ⟨rfl, hR3, hB3⟩) | (go_at_call 15; refine (refine_any w2.heap.size w.heap.size n m w2.heap.size zs (List.replicate (m + 2) s) w3 hlen hn HM.out (by simp) (by omega) (Nat.le_refl _) hR3 (hRa.below hB3 hw1)).mono ?_; rintro e w4 ⟨rfl, hRf, hRa', hB4⟩))
  have hBz' : Below w.heap.size w w4 := (hBz.trans (hB3.mono (by omega))).trans (hB4.mono (by omega))
  obtain ⟨gf, hgf⟩ : ∃ gf, gf = w2.heap.size := ⟨_, rfl⟩
  rw [← hgf] at hRf ⊢
  clear hF hRa hBz hR3 hB3 hB4 hw1 hgf
  obtain ⟨fs, hfs⟩ : ∃ fs, fs = fin zs (List.replicate (m + 2) s) := ⟨_, rfl⟩
  rw [← hfs] at hRf
  have HFS : Hid _ := hfs
  have hfl : fs.length = m + 2 := by rw [hfs, fin_length]; simp
  clear hfs
  go_loopw [9] (fun i wx => ∃ q : Nat, q ≤ n ∧ i = .int .i64 q ∧ Row wx w.heap.size 21 .i32 zs ∧ Row wx gf 21 .i32 fs ∧ Below w.heap.size w wx) (fun i _ => n - (intOf i).toNat)
  case atStart => exact ⟨0, Nat.zero_le _, rfl, hRa', hRf, hBz'⟩
  case round =>
    clear hRa' hRf hBz'
    obtain ⟨q, hq, rfl, hRa, hRf, hBz⟩ := hrel
    by_cases hqk : q < n
    · obtain ⟨b, off, rfl, hb, hc⟩ := HE.out.2 (by omega)
      have hi : (q : Int) < (n : Int) := by omega
      have h2 := hRa.cell' q (by omega)
      have h4 : wr.cell? ⟨b, off + q, none⟩ = some (.int .i32 (zs[q]?.getD 0)) := (hBz.cell (p := ⟨b, off + q, none⟩) hb).trans (hc q hqk)
      generalize zs[q]?.getD 0 = y at h2 h4
      clear hz hc
      go_wp2
      go_quiet (fail)
      go_wp2
      go_roundw
      case rel => exact ⟨q + 1, by omega, by go_num, hRa, hRf, below_dN' hBz _⟩
      case measure => simp [intOf]; omega
    · obtain rfl : q = n := by omega
      clear hqk hq
      go_wp2
      go_loopw [10] (fun i wx => ∃ j : Nat, j ≤ m ∧ i = .int .i64 j ∧ Row wx gf 21 .i32 fs ∧ Below w.heap.size w wx) (fun i _ => m - (intOf i).toNat)
      case atStart => exact ⟨0, Nat.zero_le _, rfl, hRf, hBz⟩
      case round =>
        clear hRa hRf hBz
        obtain ⟨j, hj, rfl, hRf, hBz⟩ := hrel
        by_cases hjm : j < m
        · have hq2 : 2 ≤ q ∧ m = 2 * q - 3 := by have := HM.out; unfold cnt at this; split at this <;> omega
          obtain ⟨b, off, rfl, hb, hc⟩ := HE.out.2 (by omega)
          have hcw : ∀ i, i < q → wr.cell? ⟨b, off + i, none⟩ = some (.int .i32 (zs[i]?.getD 0)) := fun i hi => (hBz.cell (p := ⟨b, off + i, none⟩) hb).trans (hc i hi)
          by_cases hev : j % 2 = 0
          · obtain ⟨i, rfl⟩ : ∃ i, j = 2 * i := ⟨j / 2, by omega⟩
            have hy := fin_even zs (List.replicate (m + 2) s) (by rw [hlen]; have := HM.out; simp; omega) (2 * i) (by rw [hlen]; have := HM.out; omega) hev
            rw [← HFS.out, Nat.mul_div_cancel_left _ (by omega)] at hy
            have h0 := hcw i (by omega)
            have h1 := hcw (i + 1) (by omega)
            have h2 := hRf.cell' (2 * i) (by omega)
            rw [hy] at h2
            have b0 := hz i
            have b1 := hz (i + 1)
            generalize zs[i]?.getD 0 = x0 at h0 h2 b0
            generalize zs[i + 1]?.getD 0 = x1 at h1 h2 b1
            have i0 : (i : Int) < (q : Int) := by omega
            have i1 : (i : Int) + 1 < (q : Int) := by omega
            have i2 : 2 * (i : Int) < (m : Int) + 2 := by omega
            have d1 : 2 * (i : Int) / 2 = (i : Int) := by omega
            have d2 : 2 * (i : Int) % 2 = 0 := by omega
            have j1 : (0 : Int) ≤ (i : Int) + 1 := by omega
            have v1 : IntKind.i64.wrap ((i : Int) + 1) = (i : Int) + 1 := by rw [IntKind.wrap_i64]; omega
            have t1 : ((i : Int) + 1).toNat = i + 1 := by omega
            clear hy hq2 hc hcw hz
            go_wp2
            go_quiet (fail)
            go_wp2
            · have hx : (mid x0 x1 != wrap32 ((x0 + x1) % 4294967296) / 2) = true := by assumption
              exact absurd hx (by rw [← mid_wrap]; simp)
            · go_roundw
              case rel => exact ⟨2 * i + 1, by omega, by go_num, hRf, below_dN' hBz _⟩
              case measure => simp [intOf]; omega
          · obtain ⟨i, rfl⟩ : ∃ i, j = 2 * i + 1 := ⟨j / 2, by omega⟩
            have hy := fin_odd zs (List.replicate (m + 2) s) (by rw [hlen]; have := HM.out; simp; omega) (2 * i + 1) (by rw [hlen]; have := HM.out; omega) (by omega)
            rw [← HFS.out, show (2 * i + 1) / 2 = i by omega] at hy
            have h0 := hcw i (by omega)
            have h1 := hcw (i + 1) (by omega)
            have h3 := hcw (i + 2) (by omega)
            have h2 := hRf.cell' (2 * i + 1) (by omega)
            rw [hy] at h2
            have b0 := hz i
            have b1 := hz (i + 1)
            have b3 := hz (i + 2)
            generalize zs[i]?.getD 0 = x0 at h0 h2 b0
            generalize zs[i + 1]?.getD 0 = x1 at h1 h2 b1
            generalize zs[i + 2]?.getD 0 = x3 at h3 h2 b3
            have i0 : (i : Int) < (q : Int) := by omega
            have i1 : (i : Int) + 1 < (q : Int) := by omega
            have i3 : (i : Int) + 2 < (q : Int) := by omega
            have i2 : 2 * (i : Int) + 1 < (m : Int) + 2 := by omega
            have d1 : 2 * (i : Int) / 2 = (i : Int) := by omega
            have d3 : (2 * (i : Int) + 1 - 1) / 2 = (i : Int) := by omega
            have d2 : (2 * (i : Int) + 1) % 2 = 1 := by omega
            have j1 : (0 : Int) ≤ (i : Int) + 1 := by omega
            have j3 : (0 : Int) ≤ (i : Int) + 2 := by omega
            have v1 : IntKind.i64.wrap ((i : Int) + 1) = (i : Int) + 1 := by rw [IntKind.wrap_i64]; omega
            have v3 : IntKind.i64.wrap ((i : Int) + 2) = (i : Int) + 2 := by rw [IntKind.wrap_i64]; omega
            have t1 : ((i : Int) + 1).toNat = i + 1 := by omega
            have t3 : ((i : Int) + 2).toNat = i + 2 := by omega
            clear hy hq2 hev hc hcw hz
            go_wp2
            go_quiet (fail)
            go_wp2
            · have hx : (onp x0 x1 x3 != wrap32 ((x0 + 6 * (x1 % 4294967296) + x3) % 4294967296) / 8) = true := by assumption
              exact absurd hx (by rw [← onp_wrap]; simp)
            · go_roundw
              case rel => exact ⟨2 * i + 1 + 1, by omega, by go_num, hRf, below_dN' hBz _⟩
              case measure => simp [intOf]; omega
        · obtain rfl : j = m := by omega
          have hp : ∀ x, x = j ∨ x = j + 1 → fs[x]?.getD 0 = s := fun x hx => by
            have := fin_past zs (List.replicate (j + 2) s) (by rw [hlen]; have := HM.out; simp; omega) x (by rw [hlen]; have := HM.out; omega) (by rw [hlen]; have := HM.out; omega)
            rw [← HFS.out] at this
            rw [this, List.getElem?_replicate, if_pos (by omega)]; rfl
          have h0 := hRf.cell' j (by omega)
          have h1 := hRf.cell' (j + 1) (by omega)
          rw [hp j (.inl rfl)] at h0
          rw [hp (j + 1) (.inr rfl)] at h1
          clear hp hjm
          have i0 : (j : Int) < (j : Int) + 2 := by omega
          have i1 : (j : Int) + 1 < (j : Int) + 2 := by omega
          have j1 : (0 : Int) ≤ (j : Int) + 1 := by omega
          have v1 : IntKind.i64.wrap ((j : Int) + 1) = (j : Int) + 1 := by rw [IntKind.wrap_i64]; omega
          have t1 : ((j : Int) + 1).toNat = j + 1 := by omega
          go_wp2
          go_ret
          exact ⟨rfl, hBz⟩
end Go.Proofs.Ybulkbvao
