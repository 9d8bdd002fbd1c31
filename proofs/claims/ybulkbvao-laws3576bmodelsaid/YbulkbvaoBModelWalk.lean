/-
  The walk of 'LawS3576BModel'.
-/
import Derived.Test.YbulkbvaoClone
namespace Go.Proofs.Ybulkbvao
open Go.RowKit

/-! ### THE LENGTHS -/
def cum (base : Int) (zs : List Int) : Nat → Int
  | 0 => base
  | i + 1 => cum base zs i + (zs[i + 1]?.getD 0 + 1)
theorem cum_bd (base : Int) (zs : List Int) (hz : ∀ j : Nat, 0 ≤ zs[j]?.getD 0 ∧ zs[j]?.getD 0 ≤ 255) (i : Nat) : base ≤ cum base zs i ∧ cum base zs i ≤ base + 256 * i := by
  induction i with
  | zero => simp [cum]
  | succ i ih =>
    have := hz (i + 1)
    simp only [cum]
    omega
theorem cum_mono (base : Int) (zs : List Int) (hz : ∀ j : Nat, 0 ≤ zs[j]?.getD 0 ∧ zs[j]?.getD 0 ≤ 255) (i j : Nat) (h : i ≤ j) : cum base zs i ≤ cum base zs j := by
  induction j with
  | zero => obtain rfl : i = 0 := by omega
            exact Int.le_refl _
  | succ j ih =>
    by_cases e : i = j + 1
    · subst e; exact Int.le_refl _
    · have := ih (by omega)
      have := hz (j + 1)
      simp only [cum]
      omega
def lens (base : Int) (zs : List Int) (k : Nat) : List Int := (List.range k).map (cum base zs)
theorem lens_length (base : Int) (zs : List Int) (k : Nat) : (lens base zs k).length = k := by simp [lens]
theorem lens_succ (base : Int) (zs : List Int) (k : Nat) : lens base zs (k + 1) = lens base zs k ++ [cum base zs k] := by simp [lens, List.range_succ]
theorem lens_at (base : Int) (zs : List Int) (k i : Nat) (h : i < k) : (lens base zs k)[i]?.getD 0 = cum base zs i := by simp [lens, h]
theorem lens_sorted (base : Int) (zs : List Int) (hz : ∀ j : Nat, 0 ≤ zs[j]?.getD 0 ∧ zs[j]?.getD 0 ≤ 255) (k : Nat) (i j : Nat) (h : i ≤ j) (hj : j < (lens base zs k).length) :
    (lens base zs k)[i]?.getD 0 ≤ (lens base zs k)[j]?.getD 0 := by
  rw [lens_length] at hj
  rw [lens_at _ _ _ _ (by omega), lens_at _ _ _ _ hj]
  exact cum_mono base zs hz i j h

/-- A row that is full is known whole. -/
theorem row_of_owns {w : World} {base e g n : Nat} {k : IntKind} {zs : List Int} (h : w.ownsRow base e 1 (.slice (some ⟨g, 0, none⟩) n n) n (zs.map (Value.int k))) : Row w g e k zs := by
  rcases h.2 with ⟨h', _⟩ | ⟨g', cap', cur, h', hb, hg, _, _, hs, ht⟩
  · simp at h'
  · simp only [Value.slice.injEq, Option.some.injEq, Addr.mk.injEq, and_true, true_and] at h'
    obtain ⟨rfl, rfl⟩ := h'
    unfold Row
    rw [hg]
    have e1 : cur.toList = zs.map (Value.int k) := by
      rw [← ht, List.take_of_length_le (by simp; omega)]
    rw [← e1]
theorem Row.elems {w : World} {g e n : Nat} {k : IntKind} {zs : List Int} (h : Row w g e k zs) (hl : zs.length = n) : Elems k w (some ⟨g, 0, none⟩) n zs :=
  ⟨hl, fun _ => ⟨g, 0, rfl, h.lt, fun i hi => by rw [Nat.zero_add]; exact h.cell' i (by omega)⟩⟩
theorem Elems.below {k : IntKind} {w w' : World} {a : Option Addr} {n : Nat} {zs : List Int} (h : Elems k w a n zs) (hb : Below w.heap.size w w') : Elems k w' a n zs :=
  ⟨h.1, fun h0 => by
    obtain ⟨b, off, e, hlt, hc⟩ := h.2 h0
    exact ⟨b, off, e, by have := hb.size; omega, fun i hi => (hb.cell (p := ⟨b, off + i, none⟩) hlt).trans (hc i hi)⟩⟩

theorem below_d {B : Nat} {a w : World} (h : Below B a w) (n : Nat) : Below B a (w.drewN n) := ⟨h.os, h.tape, h.output, h.size, h.block⟩
theorem Yba.info28 : (Yba.prog.info? 28).map (fun i => (i.zero, i.size, i.bytes)) = some (some (.slice none 0 0), 1, 24) := by kernel_rfl

set_option maxHeartbeats 2000000 in
set_option maxRecDepth 100000 in
theorem bmodel_any (base : Int) (a : Option Addr) (n c : Nat) (zs : List Int) (off raw mode : Int) (w : World) (hn : n ≤ 1024) (hbase : -2147483648 ≤ base ∧ base ≤ 2147483647) (hoff : -2147483648 ≤ off ∧ off ≤ 2147483647) (hmode : 0 ≤ mode ∧ mode ≤ 255)
    (hz : ∀ j : Nat, 0 ≤ zs[j]?.getD 0 ∧ zs[j]?.getD 0 ≤ 255) (hE : Elems .u8 w a n zs) :
    Calls Yba.prog 4 #[.int .i32 base, .slice a n c, .int .i32 off, .int .i64 raw, .int .u8 mode] w fun e w' => e = .returned (.bool true) ∧ Below w.heap.size w w' := by
  obtain ⟨hlen, hE⟩ := hE
  have HL : Hid (zs.length = n) := hlen
  clear hlen
  obtain ⟨i0, hi, hz0, hz1, hz2⟩ := info_parts Yba.info3
  go_enter Yba.func4, Yba.ntmps4
  go_wp2_with (at_make; refine wpList_make_own _ rfl _ _ 28 rfl w.heap.size 3 i0 (.int .i64 0) 1 Yba.underlying28 hi hz0 hz1 .i64 .i64 _ n rfl rfl rfl (by rw [hz2]; omega) (by unfold maxLen; omega) (Nat.le_refl _) ?_)
  intro w1 hown hgrow
  have hB : Below w.heap.size w w1 := (Below.refl _ _).grown hgrow (Nat.le_refl _) (fun k hk => by cases hk)
  clear hgrow
  go_wp2
  go_loopw [11, 12, 29] (fun ls cur i wr => ∃ k : Nat, k ≤ n ∧ i = .int .i64 k ∧ ls = .slice (some ⟨w.heap.size, 0, none⟩) k n ∧ cur = .int .i64 (cum base zs (k - 1)) ∧ wr.ownsRow w.heap.size 3 1 (.slice (some ⟨w.heap.size, 0, none⟩) k n) k ((lens base zs k).map (Value.int .i64)) ∧ Below w.heap.size w wr) (fun _ _ i _ => n - (intOf i).toNat)
  case atStart => exact ⟨0, Nat.zero_le _, rfl, rfl, rfl, hown, hB⟩
  case round =>
    clear hown hB w1
    obtain ⟨k, hk, rfl, rfl, rfl, hown, hB⟩ := hrel
    by_cases hlt : k < n
    · obtain ⟨b, o, rfl, hb, hc⟩ := hE (by omega)
      have hcx : wr.cell? ⟨b, o + k, none⟩ = some (.int .u8 (zs[k]?.getD 0)) := (hB.cell (p := ⟨b, o + k, none⟩) hb).trans (hc k hlt)
      have hzk := hz k
      have hcb := cum_bd base zs hz (k - 1)
      by_cases h0 : 0 < k
      · obtain ⟨j, rfl⟩ : ∃ j, k = j + 1 := ⟨k - 1, by omega⟩
        simp only [Nat.add_sub_cancel] at hcb ⊢
        have HC : Hid (cum base zs (j + 1) = cum base zs j + (zs[j + 1]?.getD 0 + 1)) := rfl
        generalize zs[j + 1]?.getD 0 = z at hcx hzk HC
        generalize cum base zs j = C at hcb HC ⊢
        clear hz hE hc
        go_wp2_with (at_builtin; refine wpList_append_fits _ rfl (.tmp 41) (.tmp 43) 28 rfl w.heap.size 3 i0 1 Yba.underlying28 hi hz1 w.heap.size (j + 1) n _ rfl (hown.alloc _) ⟨wr.heap.size, 0, none⟩ 1 1 [.int .i64 (C + (z + 1))] rfl rfl (cell_one_new _ _ _) (by simp [Value.oneCell']) (by omega) ?_; intro w1 hown1 hgrow1)
        have hB1 : Below w.heap.size w w1 := (hB.alloc hB.size _).grown hgrow1 (by have := hB.size; simp; omega) (fun k hk => by cases hk; exact Nat.le_refl _)
        have hown2 : w1.ownsRow w.heap.size 3 1 (.slice (some ⟨w.heap.size, 0, none⟩) (j + 1 + 1) n) (j + 1 + 1) ((lens base zs (j + 1 + 1)).map (Value.int .i64)) := by
          rw [lens_succ, HC.out, List.map_append]; exact hown1
        clear hown hown1 hgrow1 hB
        go_roundw
        case rel => exact ⟨j + 1 + 1, by omega, by go_num, rfl, by rw [Nat.add_sub_cancel, HC.out], hown2, hB1⟩
        case measure => simp [intOf]; omega
      · obtain rfl : k = 0 := by omega
        have HC : Hid (cum base zs 0 = base) := rfl
        have e0 : cum base zs (0 - 1) = base := rfl
        rw [e0] at hcb ⊢
        rw [Nat.add_zero] at hcx
        generalize zs[0]?.getD 0 = z at hcx hzk
        clear hz hE hc e0
        go_wp2_with (at_builtin; refine wpList_append_fits _ rfl (.tmp 41) (.tmp 43) 28 rfl w.heap.size 3 i0 1 Yba.underlying28 hi hz1 w.heap.size 0 n _ rfl (hown.alloc _) ⟨wr.heap.size, 0, none⟩ 1 1 [.int .i64 base] rfl rfl (cell_one_new _ _ _) (by simp [Value.oneCell']) (by omega) ?_; intro w1 hown1 hgrow1)
        have hB1 : Below w.heap.size w w1 := (hB.alloc hB.size _).grown hgrow1 (by have := hB.size; simp; omega) (fun k hk => by cases hk; exact Nat.le_refl _)
        have hown2 : w1.ownsRow w.heap.size 3 1 (.slice (some ⟨w.heap.size, 0, none⟩) (0 + 1) n) (0 + 1) ((lens base zs (0 + 1)).map (Value.int .i64)) := by
          rw [lens_succ, HC.out, List.map_append]; exact hown1
        clear hown hown1 hgrow1 hB
        go_roundw
        case rel => exact ⟨0 + 1, by omega, by go_num, rfl, by rw [Nat.add_sub_cancel, HC.out], hown2, hB1⟩
        case measure => simp [intOf]; omega
    · obtain rfl : k = n := by omega
      have hR := row_of_owns hown
      have hll := lens_length base zs k
      have HSO : Hid (∀ i j : Nat, i ≤ j → j < (lens base zs k).length → (lens base zs k)[i]?.getD 0 ≤ (lens base zs k)[j]?.getD 0) := lens_sorted base zs hz k
      generalize lens base zs k = ls at hR hll HSO
      clear hown hE hlt hk HL
      have cb := cum_bd base zs hz (k - 1)
      generalize cum base zs (k - 1) = cu at cb ⊢
      clear hz
      have hEl := hR.elems hll
      have hcl := clone_any ⟨w.heap.size, 0, none⟩ k k ls wr (by omega) hEl
      have HEL : Hid (Elems .i64 wr (some ⟨w.heap.size, 0, none⟩) k ls) := hEl
      have HLL : Hid (ls.length = k) := hll
      obtain ⟨i1, hi1, hy0, hy1, hy2⟩ := info_parts Yba.info28
      clear hEl hll
      rcases (show mode % 3 = 0 ∨ mode % 3 = 1 ∨ mode % 3 = 2 by omega) with hm | hm | hm
      · clear hR
        go_wp2_with (go_at_call 9; refine hcl.mono ?_)
        rintro e w2 ⟨a2, cap2, rfl, hE2, hnn, hB2⟩
        clear hcl
        go_wp2_with (at_make; refine wpList_make_full w2 rfl _ _ 32 rfl w2.heap.size 28 i1 (.slice none 0 0) 1 Yba.underlying32 hi1 hy0 hy1 .i64 .i64 _ _ k rfl rfl rfl rfl (by rw [hy2]; omega) (by unfold maxLen; omega) (Nat.le_refl _) ?_)
        intro w3 hown3 hgrow3
        have hB3 : Below w2.heap.size w2 w3 := (Below.refl _ _).grown hgrow3 (Nat.le_refl _) (fun k hk => by cases hk)
        clear hown3 hgrow3
        have hB4 : ∀ o, Below w3.heap.size w3 (w3.alloc o) := fun o => (Below.refl _ _).alloc (Nat.le_refl _) o
        have hEl4 : ∀ o, Elems .i64 (w3.alloc o) (some ⟨w.heap.size, 0, none⟩) k ls := fun o => ((HEL.out.below hB2).below hB3).below (hB4 o)
        have hEk4 : ∀ o, Elems .i64 (w3.alloc o) a2 k ls := fun o => (hE2.below hB3).below (hB4 o)
        have hBz : ∀ o, Below w.heap.size w (w3.alloc o) := fun o => ((hB.trans (hB2.mono hB.size)).trans (hB3.mono (Nat.le_trans hB.size hB2.size))).trans ((hB4 o).mono (Nat.le_trans (Nat.le_trans hB.size hB2.size) hB3.size))
        have HEl4 : Hid (∀ o, Elems .i64 (w3.alloc o) (some ⟨w.heap.size, 0, none⟩) k ls) := hEl4
        have HEk4 : Hid (∀ o, Elems .i64 (w3.alloc o) a2 k ls) := hEk4
        have HBz : Hid (∀ o, Below w.heap.size w (w3.alloc o)) := hBz
        clear hB3 hB4 hEl4 hEk4 hBz hE2 hB2
        go_wp2_with (go_at_call 10; refine (atMost_any w3.heap.size _ k k ls _ _ (by omega) HSO.out (HEl4.out _) (by simp)).mono ?_)
        rintro e w5 ⟨⟨r, hr, rfl⟩, rfl⟩
        have HR : Hid (IsBest _ ls r) := hr
        clear hr
        go_wp2_with (go_at_call 11; refine (model_any a2 k cap2 ls _ _ (by omega) (HEk4.out _)).mono ?_)
        rintro e w6 ⟨⟨r', hr', rfl⟩, rfl⟩
        obtain rfl : r' = r := hr'.unique HR.out (fun _ => Iff.rfl)
        clear hr'
        go_wp2_with (go_at_call 12; refine (equal_any _ a2 k k cap2 ls _ (by omega) (HEl4.out _) (HEk4.out _)).mono ?_)
        rintro e w7 ⟨rfl, nq, rfl⟩
        go_wp2
        go_ret
        exact ⟨rfl, below_d (HBz.out _) nq⟩
      · by_cases hk0 : 0 < k
        · obtain ⟨j, hj⟩ := Int.eq_ofNat_of_zero_le (show 0 ≤ off % 4294967296 % (k : Int) from Int.emod_nonneg _ (by omega))
          have hjk : j < k := by have := Int.emod_lt_of_pos (off % 4294967296) (show (0 : Int) < (k : Int) by omega); omega
          have hcx := hR.cell' j (by have := HLL.out; omega)
          generalize ls[j]?.getD 0 = y at hcx
          clear hR
          go_wp2_with (go_at_call 9; refine hcl.mono ?_)
          rintro e w2 ⟨a2, cap2, rfl, hE2, hnn, hB2⟩
          clear hcl
          go_wp2_with (at_make; refine wpList_make_full w2 rfl _ _ 32 rfl w2.heap.size 28 i1 (.slice none 0 0) 1 Yba.underlying32 hi1 hy0 hy1 .i64 .i64 _ _ k rfl rfl rfl rfl (by rw [hy2]; omega) (by unfold maxLen; omega) (Nat.le_refl _) ?_)
          intro w3 hown3 hgrow3
          have hB3 : Below w2.heap.size w2 w3 := (Below.refl _ _).grown hgrow3 (Nat.le_refl _) (fun k hk => by cases hk)
          clear hown3 hgrow3
          have hB4 : ∀ o, Below w3.heap.size w3 (w3.alloc o) := fun o => (Below.refl _ _).alloc (Nat.le_refl _) o
          have hEl4 : ∀ o, Elems .i64 (w3.alloc o) (some ⟨w.heap.size, 0, none⟩) k ls := fun o => ((HEL.out.below hB2).below hB3).below (hB4 o)
          have hEk4 : ∀ o, Elems .i64 (w3.alloc o) a2 k ls := fun o => (hE2.below hB3).below (hB4 o)
          have hBz : ∀ o, Below w.heap.size w (w3.alloc o) := fun o => ((hB.trans (hB2.mono hB.size)).trans (hB3.mono (Nat.le_trans hB.size hB2.size))).trans ((hB4 o).mono (Nat.le_trans (Nat.le_trans hB.size hB2.size) hB3.size))
          have HEl4 : Hid (∀ o, Elems .i64 (w3.alloc o) (some ⟨w.heap.size, 0, none⟩) k ls) := hEl4
          have HEk4 : Hid (∀ o, Elems .i64 (w3.alloc o) a2 k ls) := hEk4
          have HBz : Hid (∀ o, Below w.heap.size w (w3.alloc o)) := hBz
          clear hB3 hB4 hEl4 hEk4 hBz hE2 hB2
          go_wp2_with (go_at_call 10; refine (atMost_any w3.heap.size _ k k ls _ _ (by omega) HSO.out (HEl4.out _) (by simp)).mono ?_)
          rintro e w5 ⟨⟨r, hr, rfl⟩, rfl⟩
          have HR : Hid (IsBest _ ls r) := hr
          clear hr
          go_wp2_with (go_at_call 11; refine (model_any a2 k cap2 ls _ _ (by omega) (HEk4.out _)).mono ?_)
          rintro e w6 ⟨⟨r', hr', rfl⟩, rfl⟩
          obtain rfl : r' = r := hr'.unique HR.out (fun _ => Iff.rfl)
          clear hr'
          go_wp2_with (go_at_call 12; refine (equal_any _ a2 k k cap2 ls _ (by omega) (HEl4.out _) (HEk4.out _)).mono ?_)
          rintro e w7 ⟨rfl, nq, rfl⟩
          go_wp2
          go_ret
          exact ⟨rfl, below_d (HBz.out _) nq⟩
        · clear hR
          go_wp2_with (go_at_call 9; refine hcl.mono ?_)
          rintro e w2 ⟨a2, cap2, rfl, hE2, hnn, hB2⟩
          clear hcl
          go_wp2_with (at_make; refine wpList_make_full w2 rfl _ _ 32 rfl w2.heap.size 28 i1 (.slice none 0 0) 1 Yba.underlying32 hi1 hy0 hy1 .i64 .i64 _ _ k rfl rfl rfl rfl (by rw [hy2]; omega) (by unfold maxLen; omega) (Nat.le_refl _) ?_)
          intro w3 hown3 hgrow3
          have hB3 : Below w2.heap.size w2 w3 := (Below.refl _ _).grown hgrow3 (Nat.le_refl _) (fun k hk => by cases hk)
          clear hown3 hgrow3
          have hB4 : ∀ o, Below w3.heap.size w3 (w3.alloc o) := fun o => (Below.refl _ _).alloc (Nat.le_refl _) o
          have hEl4 : ∀ o, Elems .i64 (w3.alloc o) (some ⟨w.heap.size, 0, none⟩) k ls := fun o => ((HEL.out.below hB2).below hB3).below (hB4 o)
          have hEk4 : ∀ o, Elems .i64 (w3.alloc o) a2 k ls := fun o => (hE2.below hB3).below (hB4 o)
          have hBz : ∀ o, Below w.heap.size w (w3.alloc o) := fun o => ((hB.trans (hB2.mono hB.size)).trans (hB3.mono (Nat.le_trans hB.size hB2.size))).trans ((hB4 o).mono (Nat.le_trans (Nat.le_trans hB.size hB2.size) hB3.size))
          have HEl4 : Hid (∀ o, Elems .i64 (w3.alloc o) (some ⟨w.heap.size, 0, none⟩) k ls) := hEl4
          have HEk4 : Hid (∀ o, Elems .i64 (w3.alloc o) a2 k ls) := hEk4
          have HBz : Hid (∀ o, Below w.heap.size w (w3.alloc o)) := hBz
          clear hB3 hB4 hEl4 hEk4 hBz hE2 hB2
          go_wp2_with (go_at_call 10; refine (atMost_any w3.heap.size _ k k ls _ _ (by omega) HSO.out (HEl4.out _) (by simp)).mono ?_)
          rintro e w5 ⟨⟨r, hr, rfl⟩, rfl⟩
          have HR : Hid (IsBest _ ls r) := hr
          clear hr
          go_wp2_with (go_at_call 11; refine (model_any a2 k cap2 ls _ _ (by omega) (HEk4.out _)).mono ?_)
          rintro e w6 ⟨⟨r', hr', rfl⟩, rfl⟩
          obtain rfl : r' = r := hr'.unique HR.out (fun _ => Iff.rfl)
          clear hr'
          go_wp2_with (go_at_call 12; refine (equal_any _ a2 k k cap2 ls _ (by omega) (HEl4.out _) (HEk4.out _)).mono ?_)
          rintro e w7 ⟨rfl, nq, rfl⟩
          go_wp2
          go_ret
          exact ⟨rfl, below_d (HBz.out _) nq⟩
      · clear hR
        go_wp2_with (go_at_call 9; refine hcl.mono ?_)
        rintro e w2 ⟨a2, cap2, rfl, hE2, hnn, hB2⟩
        clear hcl
        go_wp2_with (at_make; refine wpList_make_full w2 rfl _ _ 32 rfl w2.heap.size 28 i1 (.slice none 0 0) 1 Yba.underlying32 hi1 hy0 hy1 .i64 .i64 _ _ k rfl rfl rfl rfl (by rw [hy2]; omega) (by unfold maxLen; omega) (Nat.le_refl _) ?_)
        intro w3 hown3 hgrow3
        have hB3 : Below w2.heap.size w2 w3 := (Below.refl _ _).grown hgrow3 (Nat.le_refl _) (fun k hk => by cases hk)
        clear hown3 hgrow3
        have hB4 : ∀ o, Below w3.heap.size w3 (w3.alloc o) := fun o => (Below.refl _ _).alloc (Nat.le_refl _) o
        have hEl4 : ∀ o, Elems .i64 (w3.alloc o) (some ⟨w.heap.size, 0, none⟩) k ls := fun o => ((HEL.out.below hB2).below hB3).below (hB4 o)
        have hEk4 : ∀ o, Elems .i64 (w3.alloc o) a2 k ls := fun o => (hE2.below hB3).below (hB4 o)
        have hBz : ∀ o, Below w.heap.size w (w3.alloc o) := fun o => ((hB.trans (hB2.mono hB.size)).trans (hB3.mono (Nat.le_trans hB.size hB2.size))).trans ((hB4 o).mono (Nat.le_trans (Nat.le_trans hB.size hB2.size) hB3.size))
        have HEl4 : Hid (∀ o, Elems .i64 (w3.alloc o) (some ⟨w.heap.size, 0, none⟩) k ls) := hEl4
        have HEk4 : Hid (∀ o, Elems .i64 (w3.alloc o) a2 k ls) := hEk4
        have HBz : Hid (∀ o, Below w.heap.size w (w3.alloc o)) := hBz
        clear hB3 hB4 hEl4 hEk4 hBz hE2 hB2
        go_wp2_with (go_at_call 10; refine (atMost_any w3.heap.size _ k k ls _ _ (by omega) HSO.out (HEl4.out _) (by simp)).mono ?_)
        rintro e w5 ⟨⟨r, hr, rfl⟩, rfl⟩
        have HR : Hid (IsBest _ ls r) := hr
        clear hr
        go_wp2_with (go_at_call 11; refine (model_any a2 k cap2 ls _ _ (by omega) (HEk4.out _)).mono ?_)
        rintro e w6 ⟨⟨r', hr', rfl⟩, rfl⟩
        obtain rfl : r' = r := hr'.unique HR.out (fun _ => Iff.rfl)
        clear hr'
        go_wp2_with (go_at_call 12; refine (equal_any _ a2 k k cap2 ls _ (by omega) (HEl4.out _) (HEk4.out _)).mono ?_)
        rintro e w7 ⟨rfl, nq, rfl⟩
        go_wp2
        go_ret
        exact ⟨rfl, below_d (HBz.out _) nq⟩
end Go.Proofs.Ybulkbvao
