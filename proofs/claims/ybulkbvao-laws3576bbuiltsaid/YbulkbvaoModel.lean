/-
  'zzs3576bmodel', slices.Equal[[]int,int], slices.Clone[[]int,int] by contracts.
-/
import Derived.Test.YbulkbvaoSearch
import Derived.WalkSpells
namespace Go.Proofs.Ybulkbvao
open Go.RowKit

set_option maxHeartbeats 1000000 in
theorem model_any (a : Option Addr) (n c : Nat) (zs : List Int) (q : Int) (w : World) (hn : n ≤ 1000000) (hE : Elems .i64 w a n zs) :
    Calls Yba.prog 11 #[.slice a n c, .int .i64 q] w fun e w' => (∃ r, IsBest q zs r ∧ e = .returned (.int .i64 r)) ∧ w' = w := by
  obtain ⟨hlen, hE⟩ := hE
  have hbest := bmAt_best q zs
  rw [hlen] at hbest
  have HB : Hid (IsBest q zs (bmAt q zs n).1) := hbest
  have HL : Hid _ := hlen
  clear hbest hlen
  go_enter Yba.func11, Yba.ntmps11
  go_wp2
  go_loop [5, 6, 11] (fun b h i => ∃ k : Nat, k ≤ n ∧ i = .int .i64 k ∧ b = .int .i64 (bmAt q zs k).1 ∧ h = .bool (bmAt q zs k).2) (fun _ _ i => n - (intOf i).toNat)
  case atStart => exact ⟨0, Nat.zero_le _, rfl, rfl, rfl⟩
  case round =>
    obtain ⟨k, hk, rfl, rfl, rfl⟩ := hrel
    by_cases hlt : k < n
    · obtain ⟨b, off, rfl, hb, hc⟩ := hE (by omega)
      have hcx := hc k hlt
      have hst := bmAt_succ q zs k (by have := HL.out; omega)
      have HST : Hid _ := hst
      clear hst
      generalize zs[k]?.getD 0 = z at hcx HST
      rcases hbb : bmAt q zs k with ⟨B, H⟩
      rw [hbb] at HST
      have HBB : Hid _ := hbb
      clear hE hc HB hbb
      by_cases h1 : z ≤ q
      · cases H with
        | false =>
          have HN : Hid (bmAt q zs (k + 1) = (z, true)) := by have := HST.out; rw [if_pos ⟨h1, Or.inl rfl⟩] at this; exact this
          clear HST
          go_wp2
          go_round
          case rel => exact ⟨k + 1, by omega, by go_num, by rw [HN.out], by rw [HN.out]⟩
          case measure => simp [intOf]; omega
        | true =>
          by_cases h2 : B < z
          · have HN : Hid (bmAt q zs (k + 1) = (z, true)) := by have := HST.out; rw [if_pos ⟨h1, Or.inr h2⟩] at this; exact this
            clear HST
            go_wp2
            go_round
            case rel => exact ⟨k + 1, by omega, by go_num, by rw [HN.out], by rw [HN.out]⟩
            case measure => simp [intOf]; omega
          · have HN : Hid (bmAt q zs (k + 1) = (B, true)) := by
              have := HST.out; rw [if_neg (fun h => by rcases h.2 with h | h; cases h; exact h2 h)] at this; exact this
            clear HST
            go_wp2
            go_round
            case rel => exact ⟨k + 1, by omega, by go_num, by rw [HN.out], by rw [HN.out]⟩
            case measure => simp [intOf]; omega
      · have HN : Hid (bmAt q zs (k + 1) = (B, H)) := by have := HST.out; rw [if_neg (fun h => h1 h.1)] at this; exact this
        clear HST
        go_wp2
        go_round
        case rel => exact ⟨k + 1, by omega, by go_num, by rw [HN.out], by rw [HN.out]⟩
        case measure => simp [intOf]; omega
    · obtain rfl : k = n := by omega
      clear hE
      go_wp2
      go_ret
      exact ⟨⟨_, HB.out, rfl⟩, rfl⟩

set_option maxHeartbeats 1000000 in
theorem equal_any (a a' : Option Addr) (n c c' : Nat) (zs : List Int) (w : World) (hn : n ≤ 1000000) (hE : Elems .i64 w a n zs) (hE' : Elems .i64 w a' n zs) :
    Calls Yba.prog 12 #[.slice a n c, .slice a' n c'] w fun e w' => e = .returned (.bool true) ∧ ∃ q, w' = w.drewN q := by
  obtain ⟨hlen, hE⟩ := hE
  obtain ⟨_, hE'⟩ := hE'
  clear hlen
  go_enter Yba.func12, Yba.ntmps12
  go_wp2
  go_loopw [13] (fun i wr => ∃ k : Nat, k ≤ n ∧ i = .int .i64 k ∧ ∃ q, wr = w.drewN q) (fun i _ => n - (intOf i).toNat)
  case atStart => exact ⟨0, Nat.zero_le _, rfl, 0, rfl⟩
  case round =>
    obtain ⟨k, hk, rfl, q, rfl⟩ := hrel
    by_cases hlt : k < n
    · obtain ⟨b, off, rfl, hb, hc⟩ := hE (by omega)
      obtain ⟨b', off', rfl, hb', hc'⟩ := hE' (by omega)
      have hcx := hc k hlt
      have hcy := hc' k hlt
      have hi : (k : Int) < (n : Int) := by omega
      generalize zs[k]?.getD 0 = z at hcx hcy
      clear hE hE' hc hc'
      go_wp2
      go_quiet (fail)
      go_wp2
      go_roundw
      case rel => exact ⟨k + 1, by omega, by go_num, q + nq, by simp [World.drewN]⟩
      case measure => simp [intOf]; omega
    · obtain rfl : k = n := by omega
      clear hE hE'
      go_wp2
      go_ret
      exact ⟨rfl, q, rfl⟩
end Go.Proofs.Ybulkbvao
