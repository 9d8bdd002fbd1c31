/-
  slices.BinarySearch[[]int,int] and (*waitlist).atMost by contracts.
-/
import Derived.Test.YbulkbvaoRows
import Derived.Test.YbulkbvaoBest
import Derived.Test.YbulkbvaoElems
import Derived.RegionTactic
import Derived.ChangeAlike
import Derived.Deep.QuietTactic
import Derived.BigQuiet
namespace Go.Proofs.Ybulkbvao
open Go.RowKit

theorem less_any (x y : Int) (w : World) :
    Calls Yba.prog 23 #[.int .i64 x, .int .i64 y] w fun e w' => e = .returned (.bool (decide (x < y))) ∧ w' = w := by
  go_enter Yba.func23, Yba.ntmps23
  go_wp2
  go_ret
  exact ⟨rfl, rfl⟩

/-- found. -/
def fnd (zs : List Int) (t : Int) (p : Nat) : Bool := decide (p < zs.length ∧ zs[p]?.getD 0 = t)

set_option maxHeartbeats 1000000 in
theorem search_any (a : Option Addr) (n c : Nat) (zs : List Int) (t : Int) (w : World) (hn : n ≤ 1000000) (hs : ∀ i j : Nat, i ≤ j → j < zs.length → zs[i]?.getD 0 ≤ zs[j]?.getD 0) (hE : Elems .i64 w a n zs) :
    Calls Yba.prog 16 #[.slice a n c, .int .i64 t] w fun e w' => (∃ p, Cut zs t p ∧ e = .returned (.tuple #[.int .i64 p, .bool (fnd zs t p)])) ∧ w' = w := by
  obtain ⟨hlen, hE⟩ := hE
  have HL : Hid _ := hlen
  have HS : Hid _ := hs
  clear hlen hs
  go_enter Yba.func16, Yba.ntmps16
  go_wp2
  go_loop [7, 8] (fun i j => ∃ x y : Nat, x ≤ y ∧ y ≤ n ∧ i = .int .i64 x ∧ j = .int .i64 y ∧ (∀ k, k < x → zs[k]?.getD 0 < t) ∧ ∀ k, y ≤ k → k < n → t ≤ zs[k]?.getD 0) (fun i j => (intOf j - intOf i).toNat)
  case atStart => exact ⟨0, n, Nat.zero_le _, Nat.le_refl _, rfl, rfl, fun k hk => by omega, fun k h1 h2 => by omega⟩
  case round =>
    obtain ⟨x, y, hxy, hyn, rfl, rfl, hl, hr⟩ := hrel
    have HLo : Hid _ := hl
    have HHi : Hid _ := hr
    clear hl hr
    by_cases hlt : x < y
    · obtain ⟨b, off, rfl, hb, hc⟩ := hE (by omega)
      have hcx := hc ((x + y) / 2) (by omega)
      have hm := ((x + y) / 2 : Nat)
      generalize hz : zs[(x + y) / 2]?.getD 0 = z at hcx
      have HZ : Hid _ := hz
      clear hz hE hc hm
      go_wp2_with (go_at_call 23; refine (less_any _ _ _).mono ?_; rintro e w' ⟨rfl, rfl⟩)
      · have hzt : z < t := by assumption
        go_round
        case rel =>
          refine ⟨(x + y) / 2 + 1, y, by omega, by omega, by go_num, rfl, fun k hk => ?_, HHi.out⟩
          have h1 := HS.out k ((x + y) / 2) (by omega) (by have := HL.out; omega)
          rw [HZ.out] at h1
          omega
        case measure => simp [intOf]; omega
      · have hzt : t ≤ z := by assumption
        go_round
        case rel =>
          refine ⟨x, (x + y) / 2, by omega, by omega, rfl, by go_num, HLo.out, fun k hk hkn => ?_⟩
          have h1 := HS.out ((x + y) / 2) k (by omega) (by have := HL.out; omega)
          rw [HZ.out] at h1
          omega
        case measure => simp [intOf]; omega
    · obtain rfl : x = y := by omega
      have hcut : Cut zs t x := ⟨by have := HL.out; omega, HLo.out, fun k h1 h2 => HHi.out k h1 (by have := HL.out; omega)⟩
      have HC : Hid _ := hcut
      clear hcut hxy hlt
      by_cases hxn : x < n
      · obtain ⟨b, off, rfl, hb, hc⟩ := hE (by omega)
        have hcx := hc x hxn
        have hi : (x : Int) < (n : Int) := by omega
        by_cases hzt : zs[x]?.getD 0 = t
        · have hf : fnd zs t x = true := by unfold fnd; exact decide_eq_true ⟨by have := HL.out; omega, hzt⟩
          have HF : Hid _ := hf
          rw [hzt] at hcx
          clear hE hc hzt hf
          go_wp2
          go_ret2
          exact ⟨⟨x, HC.out, by rw [HF.out]; rfl⟩, rfl⟩
        · have hf : fnd zs t x = false := by unfold fnd; exact decide_eq_false (fun h => hzt h.2)
          have HF : Hid _ := hf
          generalize zs[x]?.getD 0 = z at hcx hzt
          have hne : (z == t) = false := by simpa using hzt
          clear hE hc hzt hf
          go_wp2
          go_ret2
          exact ⟨⟨x, HC.out, by rw [HF.out]; rfl⟩, rfl⟩
      · have hf : fnd zs t x = false := by unfold fnd; exact decide_eq_false (fun h => by have := HL.out; omega)
        have HF : Hid _ := hf
        clear hE hf
        go_wp2
        go_ret2
        exact ⟨⟨x, HC.out, by rw [HF.out]; rfl⟩, rfl⟩

set_option maxHeartbeats 1000000 in
theorem atMost_any (bw : Nat) (a : Option Addr) (n c : Nat) (zs : List Int) (t : Int) (w : World) (hn : n ≤ 1000000) (hs : ∀ i j : Nat, i ≤ j → j < zs.length → zs[i]?.getD 0 ≤ zs[j]?.getD 0) (hE : Elems .i64 w a n zs)
    (hw : w.cell? ⟨bw, 0, none⟩ = some (.slice a n c)) :
    Calls Yba.prog 10 #[.pointer (some ⟨bw, 0, none⟩), .int .i64 t] w fun e w' => (∃ r, IsBest t zs r ∧ e = .returned (.int .i64 r)) ∧ w' = w := by
  have hsr := search_any a n c zs t w hn hs hE
  obtain ⟨hlen, hE⟩ := hE
  have HL : Hid _ := hlen
  have HS : Hid _ := hs
  clear hlen hs
  go_enter Yba.func10, Yba.ntmps10
  go_wp2_with (go_at_call 16; refine hsr.mono ?_)
  rintro e w' ⟨⟨p, hp, rfl⟩, hw'⟩
  subst hw'
  have hbest := ans_best HS.out hp
  have hpl : p ≤ n := by have := hp.1; have := HL.out; omega
  clear hp hsr
  unfold ans at hbest
  have HB : Hid _ := hbest
  clear hbest
  by_cases hf : fnd zs t p = true
  · have hfe : p < zs.length ∧ zs[p]?.getD 0 = t := by unfold fnd at hf; exact of_decide_eq_true hf
    have HR : Hid (IsBest t zs t) := by have := HB.out; rw [if_pos hfe] at this; exact this
    clear HB hfe hE
    go_wp2
    go_ret
    exact ⟨⟨t, HR.out, rfl⟩, rfl⟩
  · have hfe : ¬ (p < zs.length ∧ zs[p]?.getD 0 = t) := fun h => hf (by unfold fnd; exact decide_eq_true h)
    have hff : fnd zs t p = false := by simpa using hf
    by_cases h0 : 0 < p
    · have HR : Hid (IsBest t zs (zs[p - 1]?.getD 0)) := by have := HB.out; rw [if_neg hfe, if_pos h0] at this; exact this
      obtain ⟨b, off, rfl, hb, hc⟩ := hE (by omega)
      obtain ⟨q, rfl⟩ : ∃ q, p = q + 1 := ⟨p - 1, by omega⟩
      simp only [Nat.add_sub_cancel] at HR
      have hcx := hc q (by omega)
      generalize zs[q]?.getD 0 = z at hcx HR
      clear HB hfe hE hc hf
      go_wp2
      go_ret
      exact ⟨⟨z, HR.out, rfl⟩, rfl⟩
    · obtain rfl : p = 0 := by omega
      have HR : Hid (IsBest t zs (-1)) := by have := HB.out; rw [if_neg hfe, if_neg h0] at this; exact this
      clear HB hfe hE hf
      go_wp2
      go_ret
      exact ⟨⟨-1, HR.out, rfl⟩, rfl⟩
end Go.Proofs.Ybulkbvao
