/-
  The comparison that 'newWaitlist' hands to slices.SortFunc, by contracts.
-/
import Derived.Test.YbulkbvaoSearch
import Derived.Deep.RegionHeld3
import Derived.Sort.Grow
namespace Go.Proofs.Ybulkbvao
open Go.RowKit

def cmpI (x y : Int) : Int := if x < y then -1 else if y < x then 1 else 0
theorem cmpI_lt {x y : Int} (h : x < y) : cmpI x y = -1 := by unfold cmpI; rw [if_pos h]
theorem cmpI_gt {x y : Int} (h : y < x) : cmpI x y = 1 := by unfold cmpI; rw [if_neg (by omega), if_pos h]
theorem cmpI_eq {x y : Int} (h : x = y) : cmpI x y = 0 := by unfold cmpI; rw [if_neg (by omega), if_neg (by omega)]

theorem compare_any (x y : Int) (w : World) :
    Calls Yba.prog 20 #[.int .i64 x, .int .i64 y] w fun e w' => e = .returned (.int .i64 (cmpI x y)) ∧ w' = w := by
  rcases Int.lt_trichotomy x y with h | h | h
  · rw [cmpI_lt h]
    go_enter Yba.func20, Yba.ntmps20
    go_wp2
    go_ret
    exact ⟨rfl, rfl⟩
  · rw [cmpI_eq h]
    subst h
    have h1 : ¬ x < x := by omega
    go_enter Yba.func20, Yba.ntmps20
    go_wp2
    go_ret
    exact ⟨rfl, rfl⟩
  · rw [cmpI_gt h]
    have h1 : ¬ x < y := by omega
    go_enter Yba.func20, Yba.ntmps20
    go_wp2
    go_ret
    exact ⟨rfl, rfl⟩

def orI (x y : Int) : Int := if x = 0 then y else x
set_option maxHeartbeats 400000 in
theorem or_any (g : Nat) (x y : Int) (w : World) (h0 : w.cell? ⟨g, 0, none⟩ = some (.int .i64 x)) (h1 : w.cell? ⟨g, 1, none⟩ = some (.int .i64 y)) :
    Calls Yba.prog 19 #[.slice (some ⟨g, 0, none⟩) 2 2] w fun e w' => e = .returned (.int .i64 (orI x y)) ∧ w' = w := by
  by_cases hx : x = 0
  · have ho : orI x y = y := by unfold orI; rw [if_pos hx]
    rw [ho]
    subst hx
    by_cases hy : y = 0
    · subst hy
      go_enter Yba.func19, Yba.ntmps19
      go_wp2
      refine wp_loop_rounds 3 ?_
      rw [rounds_succ]
      go_wp2
      rw [rounds_succ]
      go_wp2
      rw [rounds_succ]
      go_wp2
      go_ret
      exact ⟨rfl, rfl⟩
    · have hne : (y == 0) = false := by simpa using hy
      go_enter Yba.func19, Yba.ntmps19
      go_wp2
      refine wp_loop_rounds 2 ?_
      rw [rounds_succ]
      go_wp2
      rw [rounds_succ]
      go_wp2
      go_ret
      exact ⟨rfl, rfl⟩
  · have ho : orI x y = x := by unfold orI; rw [if_neg hx]
    rw [ho]
    have hne : (x == 0) = false := by simpa using hx
    go_enter Yba.func19, Yba.ntmps19
    go_wp2
    refine wp_loop_rounds 1 ?_
    rw [rounds_succ]
    go_wp2
    go_ret
    exact ⟨rfl, rfl⟩

set_option maxHeartbeats 1000000 in
theorem closure_any (b1 ba off n c x y : Nat) (mx my : Int) (w : World) (hx : x < n) (hy : y < n)
    (h0 : w.cell? ⟨b1, 0, none⟩ = some (.slice (some ⟨ba, off, none⟩) n c)) (h1 : w.cell? ⟨ba, off + x, none⟩ = some (.int .i64 mx)) (h2 : w.cell? ⟨ba, off + y, none⟩ = some (.int .i64 my)) :
    Calls Yba.prog 18 #[.int .i64 x, .int .i64 y, .pointer (some ⟨b1, 0, none⟩)] w fun e w' => e = .returned (.int .i64 (orI (cmpI mx my) (cmpI y x))) ∧ ∃ q os, w' = Sort.grow (w.drewN q) os := by
  have i1 : (x : Int) < (n : Int) := by omega
  have i2 : (y : Int) < (n : Int) := by omega
  go_enter Yba.func18, Yba.ntmps18
  go_wp2
  go_region_held3 (fun w' => w'.cell? ⟨b1, 0, none⟩ = some (.slice (some ⟨ba, off, none⟩) n c) ∧ w'.cell? ⟨ba, off + x, none⟩ = some (.int .i64 mx) ∧ w'.cell? ⟨ba, off + y, none⟩ = some (.int .i64 my)) (go_keep)
    (first | (go_at_call 20; refine (compare_any _ _ _).mono ?_; rintro e w' ⟨rfl, rfl⟩) | (go_at_call 19; refine (or_any _ (cmpI mx my) (cmpI (y : Int) (x : Int)) _ ?_ ?_).mono ?_; simp; simp; rintro e w' ⟨rfl, rfl⟩))
  go_wp2
  go_ret
  exact ⟨rfl, 1, #[Obj.cells #[Value.int IntKind.i64 (cmpI mx my), Value.int IntKind.i64 (cmpI ↑y ↑x)] 3], by rw [Sort.alloc_eq_grow]; rfl⟩
end Go.Proofs.Ybulkbvao
