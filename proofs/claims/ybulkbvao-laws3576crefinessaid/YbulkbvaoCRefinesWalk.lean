/-
  The walk of 'LawS3576CRefines'.
-/
import Derived.Test.YbulkbvaoFine
import Derived.Test.YbulkbvaoElems
import Derived.Test.YbulkbvaoMask
namespace Go.Proofs.Ybulkbvao
open Go.RowKit

theorem below_dN {B : Nat} {a w : World} (h : Below B a w) (n : Nat) : Below B a (w.drewN n) := ⟨h.os, h.tape, h.output, h.size, h.block⟩
theorem mid_small (a b : Int) (h0 : 0 ≤ a + b) (h1 : a + b ≤ 2147483647) : mid a b = (a + b) / 2 := by
  unfold mid wrap32; omega
theorem onp_small (a b c : Int) (h0 : 0 ≤ a + 6 * b + c) (h1 : a + 6 * b + c ≤ 2147483647) : onp a b c = (a + 6 * b + c) / 8 := by
  unfold onp wrap32; omega

set_option maxHeartbeats 2000000 in
set_option maxRecDepth 100000 in
theorem crefines_any (a : Option Addr) (n c : Nat) (zs : List Int) (w : World) (hn : n ≤ 1024) (hz : ∀ j : Nat, -2147483648 ≤ zs[j]?.getD 0 ∧ zs[j]?.getD 0 ≤ 2147483647) (hE : Elems .i32 w a n zs) :
    Calls Yba.prog 6 #[.slice a n c] w fun e w' => e = .returned (.bool true) ∧ Below w.heap.size w w' := by
  obtain ⟨hlen, hE⟩ := hE
  go_enter Yba.func6, Yba.ntmps6
  go_wp2_with (at_make; refine wpList_make_row _ rfl _ _ 22 rfl 21 .i32 4 Yba.underlying22 Yba.info21' .i64 .i64 _ _ n rfl rfl rfl rfl (by omega) (by unfold maxLen; omega) ?_)
  intro w1 hR1 hB1 hS1
  obtain ⟨g2, hg2⟩ : ∃ g2, g2 = w1.heap.size := ⟨_, rfl⟩
  have HS1 : Hid _ := hS1
  clear hS1
  go_wp2_with (at_make; refine wpList_make_row _ rfl _ _ 22 rfl 21 .i32 4 Yba.underlying22 Yba.info21' .i64 .i64 _ _ n rfl rfl rfl rfl (by omega) (by unfold maxLen; omega) ?_)
  intro w2 hR2 hB2 hS2
  have hR1' := hR1.below hB2 hR1.lt
  have hB := hB1.trans (hB2.mono (by have := HS1.out; omega))
  rw [← hg2] at hR2 ⊢
  have hg12 : w.heap.size < g2 := by have := HS1.out; omega
  clear hR1 hB1 HS1 hB2 hS2 hg2
  go_wp2
  have hml : (zs.map msk).length = n := by simpa using hlen
  obtain ⟨ms, hms⟩ : ∃ ms, ms = zs.map msk := ⟨_, rfl⟩
  rw [← hms] at hml
  have HMS : Hid _ := hms
  clear hms
  go_loopw [27] (fun i wr => ∃ k : Nat, k ≤ n ∧ i = .int .i64 k ∧ Row wr w.heap.size 21 .i32 (laidN ms n k) ∧ Row wr g2 21 .i32 (laidN ms n k) ∧ Below w.heap.size w wr) (fun i _ => n - (intOf i).toNat)
  case atStart => exact ⟨0, Nat.zero_le _, rfl, hR1'.same (by simp [laidN]), hR2.same (by simp [laidN]), hB⟩
  case round =>
    clear hR1' hR2 hB w1 w2
    obtain ⟨k, hk, rfl, hRr, hCr, hBr⟩ := hrel
    by_cases hlt : k < n
    · obtain ⟨b, off, rfl, hb, hc⟩ := hE (by omega)
      have hcx : wr.cell? ⟨b, off + k, none⟩ = some (.int .i32 (zs[k]?.getD 0)) := (hBr.cell (p := ⟨b, off + k, none⟩) hb).trans (hc k hlt)
      have hzk := hz k
      have h2 := hRr.cell' k (by rw [laidN_length _ _ _ hml hk]; exact hlt)
      have h3 := hRr.free k
      have h4 := hCr.cell' k (by rw [laidN_length _ _ _ hml hk]; exact hlt)
      have h5 := hCr.free k
      have em : ms[k]?.getD 0 = msk (zs[k]?.getD 0) := by rw [HMS.out]; exact map_msk_at zs k (by omega)
      have hst := laidN_step ms n k hml hlt
      rw [em] at hst
      generalize zs[k]?.getD 0 = z at hcx hzk em hst
      generalize (laidN ms n k)[k]?.getD 0 = y at h2 h4
      have hrow1 := (hRr.store k (msk z)).other (a := ⟨g2, k, none⟩) (by show w.heap.size ≠ g2; omega) (.int .i32 (msk z))
      have hrow2 := (hCr.other (a := ⟨w.heap.size, k, none⟩) (by show g2 ≠ w.heap.size; omega) (.int .i32 (msk z))).store k (msk z)
      rw [hst] at hrow1 hrow2
      have hbl := (hBr.setCell (p := ⟨w.heap.size, k, none⟩) (Nat.le_refl _) (.int .i32 (msk z))).setCell (p := ⟨g2, k, none⟩) (by show w.heap.size ≤ g2; omega) (.int .i32 (msk z))
      clear hz hE hc hst em hRr hCr hBr
      go_wp2
      go_roundw
      case rel => exact ⟨k + 1, by omega, by go_num, hrow1, hrow2, hbl⟩
      case measure => simp [intOf]; omega
    · obtain rfl : k = n := by omega
      rw [laidN_full _ _ hml] at hRr hCr
      obtain ⟨m, hm⟩ : ∃ m, m = cnt k := ⟨_, rfl⟩
      have hF := fine_any k m (-1) wr hn hm
      have hmb : m ≤ 2045 := by rw [hm]; unfold cnt; split <;> omega
      have HM : Hid _ := hm
      clear hm
      have hw1 := hRr.lt
      have hw2 := hCr.lt
      go_wp2_with (first | (go_at_call 14; refine hF.mono ?_; rintro e w3 ⟨rfl, hR3, hB3⟩) | (go_at_call 15; refine (refine_any wr.heap.size w.heap.size k m wr.heap.size ms (List.replicate (m + 2) (-1)) w3 hml hn HM.out (by simp) (by omega) (Nat.le_refl _) hR3 (hRr.below hB3 hw1)).mono ?_; rintro e w4 ⟨rfl, hRf, hRa, hB4⟩))
      have hRk := (hCr.below hB3 hw2).below hB4 hw2
      have hBz : Below w.heap.size w w4 := (hBr.trans (hB3.mono (by omega))).trans (hB4.mono (by omega))
      obtain ⟨gf, hgf⟩ : ∃ gf, gf = wr.heap.size := ⟨_, rfl⟩
      rw [← hgf] at hRf ⊢
      clear hF hRr hCr hBr hR3 hB3 hB4 hw1 hw2 hgf hz hE
      obtain ⟨fs, hfs⟩ : ∃ fs, fs = fin ms (List.replicate (m + 2) (-1)) := ⟨_, rfl⟩
      rw [← hfs] at hRf
      have HFS : Hid _ := hfs
      have hfl : fs.length = m + 2 := by rw [hfs, fin_length]; simp
      clear hfs
      go_loopw [11] (fun i wx => ∃ q : Nat, q ≤ k ∧ i = .int .i64 q ∧ Row wx w.heap.size 21 .i32 ms ∧ Row wx g2 21 .i32 ms ∧ Row wx gf 21 .i32 fs ∧ Below w.heap.size w wx) (fun i _ => k - (intOf i).toNat)
      case atStart => exact ⟨0, Nat.zero_le _, rfl, hRa, hRk, hRf, hBz⟩
      case round =>
        clear hRa hRk hRf hBz
        obtain ⟨q, hq, rfl, hRa, hRk, hRf, hBz⟩ := hrel
        by_cases hqk : q < k
        · have hi : (q : Int) < (k : Int) := by omega
          have h2 := hRa.cell' q (by omega)
          have h4 := hRk.cell' q (by omega)
          generalize ms[q]?.getD 0 = y at h2 h4
          go_wp2
          go_quiet (fail)
          go_wp2
          go_roundw
          case rel => exact ⟨q + 1, by omega, by go_num, hRa, hRk, hRf, below_dN hBz _⟩
          case measure => simp [intOf]; omega
        · obtain rfl : q = k := by omega
          clear hqk hq
          go_wp2
          go_loopw [12] (fun i wx => ∃ j : Nat, j ≤ m ∧ i = .int .i64 j ∧ Row wx w.heap.size 21 .i32 ms ∧ Row wx g2 21 .i32 ms ∧ Row wx gf 21 .i32 fs ∧ Below w.heap.size w wx) (fun i _ => m - (intOf i).toNat)
          case atStart => exact ⟨0, Nat.zero_le _, rfl, hRa, hRk, hRf, hBz⟩
          case round =>
            clear hRa hRk hRf hBz
            obtain ⟨j, hj, rfl, hRa, hRk, hRf, hBz⟩ := hrel
            by_cases hjm : j < m
            · have hq2 : 2 ≤ q ∧ m = 2 * q - 3 := by have := HM.out; unfold cnt at this; split at this <;> omega
              by_cases hev : j % 2 = 0
              · obtain ⟨i, rfl⟩ : ∃ i, j = 2 * i := ⟨j / 2, by omega⟩
                have hy := fin_even ms (List.replicate (m + 2) (-1)) (by rw [hml]; have := HM.out; simp; omega) (2 * i) (by rw [hml]; have := HM.out; omega) hev
                rw [← HFS.out, Nat.mul_div_cancel_left _ (by omega)] at hy
                have h0 := hRk.cell' i (by omega)
                have h1 := hRk.cell' (i + 1) (by omega)
                have h2 := hRf.cell' (2 * i) (by omega)
                rw [hy] at h2
                have b0 := msk_at zs i
                have b1 := msk_at zs (i + 1)
                rw [← HMS.out] at b0 b1
                generalize ms[i]?.getD 0 = x0 at h0 h2 b0
                generalize ms[i + 1]?.getD 0 = x1 at h1 h2 b1
                rw [mid_small x0 x1 (by omega) (by omega)] at h2
                have i0 : (i : Int) < (q : Int) := by omega
                have i1 : (i : Int) + 1 < (q : Int) := by omega
                have i2 : 2 * (i : Int) < (m : Int) + 2 := by omega
                have d1 : 2 * (i : Int) / 2 = (i : Int) := by omega
                have d2 : 2 * (i : Int) % 2 = 0 := by omega
                have j1 : (0 : Int) ≤ (i : Int) + 1 := by omega
                have v1 : IntKind.i64.wrap ((i : Int) + 1) = (i : Int) + 1 := by rw [IntKind.wrap_i64]; omega
                have t1 : ((i : Int) + 1).toNat = i + 1 := by omega
                clear hy hq2
                go_wp2
                go_quiet (fail)
                go_wp2
                go_roundw
                case rel => exact ⟨2 * i + 1, by omega, by go_num, hRa, hRk, hRf, below_dN hBz _⟩
                case measure => simp [intOf]; omega
              · obtain ⟨i, rfl⟩ : ∃ i, j = 2 * i + 1 := ⟨j / 2, by omega⟩
                have hy := fin_odd ms (List.replicate (m + 2) (-1)) (by rw [hml]; have := HM.out; simp; omega) (2 * i + 1) (by rw [hml]; have := HM.out; omega) (by omega)
                rw [← HFS.out, show (2 * i + 1) / 2 = i by omega] at hy
                have h0 := hRk.cell' i (by omega)
                have h1 := hRk.cell' (i + 1) (by omega)
                have h3 := hRk.cell' (i + 2) (by omega)
                have h2 := hRf.cell' (2 * i + 1) (by omega)
                rw [hy] at h2
                have b0 := msk_at zs i
                have b1 := msk_at zs (i + 1)
                have b3 := msk_at zs (i + 2)
                rw [← HMS.out] at b0 b1 b3
                generalize ms[i]?.getD 0 = x0 at h0 h2 b0
                generalize ms[i + 1]?.getD 0 = x1 at h1 h2 b1
                generalize ms[i + 2]?.getD 0 = x3 at h3 h2 b3
                rw [onp_small x0 x1 x3 (by omega) (by omega)] at h2
                have i0 : (i : Int) < (q : Int) := by omega
                have i1 : (i : Int) + 1 < (q : Int) := by omega
                have i3 : (i : Int) + 2 < (q : Int) := by omega
                have i2 : 2 * (i : Int) + 1 < (m : Int) + 2 := by omega
                have d1 : 2 * (i : Int) / 2 = (i : Int) := by omega
                have d3 : (2 * (i : Int) + 1 - 1) / 2 = (i : Int) := by omega
                have d2 : (2 * (i : Int) + 1) % 2 = 1 := by omega
                have j1 : (0 : Int) ≤ (i : Int) + 1 := by omega
                have j3 : (0 : Int) ≤ (i : Int) + 2 := by omega
                have v1 : IntKind.i64.wrap ((i : Int) + 1) = (i : Int) + 1 := by rw [IntKind.wrap_i64]; omega
                have v3 : IntKind.i64.wrap ((i : Int) + 2) = (i : Int) + 2 := by rw [IntKind.wrap_i64]; omega
                have t1 : ((i : Int) + 1).toNat = i + 1 := by omega
                have t3 : ((i : Int) + 2).toNat = i + 2 := by omega
                clear hy hq2 hev
                go_wp2
                go_quiet (fail)
                go_wp2
                go_roundw
                case rel => exact ⟨2 * i + 1 + 1, by omega, by go_num, hRa, hRk, hRf, below_dN hBz _⟩
                case measure => simp [intOf]; omega
            · obtain rfl : j = m := by omega
              have hp : ∀ x, x = j ∨ x = j + 1 → fs[x]?.getD 0 = -1 := fun x hx => by
                have := fin_past ms (List.replicate (j + 2) (-1)) (by rw [hml]; have := HM.out; simp; omega) x (by rw [hml]; have := HM.out; omega) (by rw [hml]; have := HM.out; omega)
                rw [← HFS.out] at this
                rw [this, List.getElem?_replicate, if_pos (by omega)]; rfl
              have h0 := hRf.cell' j (by omega)
              have h1 := hRf.cell' (j + 1) (by omega)
              rw [hp j (.inl rfl)] at h0
              rw [hp (j + 1) (.inr rfl)] at h1
              clear hp hjm
              have i0 : (j : Int) < (j : Int) + 2 := by omega
              have i1 : (j : Int) + 1 < (j : Int) + 2 := by omega
              have j1 : (0 : Int) ≤ (j : Int) + 1 := by omega
              have v1 : IntKind.i64.wrap ((j : Int) + 1) = (j : Int) + 1 := by rw [IntKind.wrap_i64]; omega
              have t1 : ((j : Int) + 1).toNat = j + 1 := by omega
              go_wp2
              go_ret
              exact ⟨rfl, hBz⟩
end Go.Proofs.Ybulkbvao
