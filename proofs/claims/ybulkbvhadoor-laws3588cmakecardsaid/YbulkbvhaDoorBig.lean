/-
  math/big's maker functions and decimal's two: each returns a pointer (a Decimal); below the heap's end nothing has turned.
-/
import Derived.Test.YbulkbvhaDoorKit
import Derived.Test.YbulkbvhaDoorUint
namespace Go.Proofs.YbulkbvhaDoor
open Go.RowKit
theorem Ybad.info58 : (Ybad.prog.info? 58).map (fun i => (i.zero, i.size, i.bytes)) = some (some (.int .u64 0), 1, 8) := by kernel_rfl

theorem make1_any (w : World) :
    Calls Ybad.prog 31 #[.slice none 0 0, .int .i64 1] w fun e w' => e = .returned (.slice (some ⟨w.heap.size, 0, none⟩) 1 1) ∧ Row w' w.heap.size 58 .u64 [0] ∧ Below w.heap.size w w' := by
  go_enter Ybad.func31, Ybad.ntmps31
  go_wp2_with (at_make; refine wpList_make_row _ rfl _ _ 46 rfl 58 .u64 8 Ybad.underlying46 Ybad.info58 .i64 .i64 _ _ 1 rfl rfl rfl rfl (by omega) (by unfold maxLen; omega) ?_)
  intro w1 hR hB _
  go_wp2
  go_ret
  exact ⟨rfl, hR, hB⟩

theorem setWord_any (u : Nat) (h0 : 0 < u) (hu : u < 18446744073709551616) (w : World) :
    Calls Ybad.prog 30 #[.slice none 0 0, .int .u64 u] w fun e w' => e = .returned (.slice (some ⟨w.heap.size, 0, none⟩) 1 1) ∧ Below w.heap.size w w' := by
  go_enter Ybad.func30, Ybad.ntmps30
  go_wp2_with (go_at_call 31; refine (make1_any _).mono ?_; rintro e w1 ⟨rfl, hR, hB⟩; have hc := hR.cell 0 (by simp); have hf := hR.free 0; have HB : Hid (Below w.heap.size w w1) := hB; clear hR hB)
  go_ret
  exact ⟨rfl, HB.out.setCell (Nat.le_refl _) _⟩

theorem setNat_any (u : Nat) (h0 : 0 < u) (hu : u < 18446744073709551616) (w : World) :
    Calls Ybad.prog 24 #[.slice none 0 0, .int .u64 u] w fun e w' => e = .returned (.slice (some ⟨w.heap.size, 0, none⟩) 1 1) ∧ Below w.heap.size w w' := by
  go_enter Ybad.func24, Ybad.ntmps24
  go_wp2_with (go_at_call 30; refine (setWord_any u h0 hu _).mono ?_; rintro e w1 ⟨rfl, hB⟩)
  go_ret
  exact ⟨rfl, hB⟩

theorem setUint_any (g u : Nat) (b0 : Bool) (h0 : 0 < u) (hu : u < 18446744073709551616) (w : World) (hg : g < w.heap.size)
    (hc0 : w.cell? ⟨g, 0, none⟩ = some (.bool b0)) (hc1 : w.cell? ⟨g, 1, none⟩ = some (.slice none 0 0)) (hf0 : w.frozen? ⟨g, 0, none⟩ = false) (hf1 : w.frozen? ⟨g, 1, none⟩ = false) :
    Calls Ybad.prog 12 #[.pointer (some ⟨g, 0, none⟩), .int .u64 u] w fun e w' => e = .returned (.pointer (some ⟨g, 0, none⟩)) ∧ Below g w w' := by
  go_enter Ybad.func12, Ybad.ntmps12
  go_wp2_with (go_at_call 24; refine (setNat_any u h0 hu _).mono ?_; rintro e w1 ⟨rfl, hB⟩; have hc0' : w1.cell? ⟨g, 0, none⟩ = some (.bool b0) := (by rw [hB.cell (p := ⟨g, 0, none⟩) hg]; exact hc0); have hc1' : w1.cell? ⟨g, 1, none⟩ = some (.slice none 0 0) := (by rw [hB.cell (p := ⟨g, 1, none⟩) hg]; exact hc1); have hf0' : w1.frozen? ⟨g, 0, none⟩ = false := (by rw [hB.frozen (p := ⟨g, 0, none⟩) hg]; exact hf0); have hf1' : w1.frozen? ⟨g, 1, none⟩ = false := (by rw [hB.frozen (p := ⟨g, 1, none⟩) hg]; exact hf1); have HB : Hid (Below g w w1) := hB.mono (Nat.le_of_lt hg); clear hB hc0 hc1 hf0 hf1)
  go_ret
  exact ⟨rfl, (HB.out.setCell (Nat.le_refl _) _).setCell (Nat.le_refl _) _⟩

set_option maxHeartbeats 400000 in
theorem newInt_any (n : Int) (h0 : -9223372036854775808 ≤ n) (h1 : n ≤ 9223372036854775807) (w : World) :
    Calls Ybad.prog 13 #[.int .i64 n] w fun e w' => (∃ p, e = .returned (.pointer (some p))) ∧ Below w.heap.size w w' := by
  go_enter Ybad.func13, Ybad.ntmps13
  go_wp2
  · go_ret
    exact ⟨⟨_, rfl⟩, ((Below.refl _ _).alloc (Nat.le_refl _) _).alloc (by simp) _⟩
  · go_ret
    exact ⟨⟨_, rfl⟩, ((Below.refl _ _).alloc (Nat.le_refl _) _)⟩
  · go_ret
    exact ⟨⟨_, rfl⟩, ((Below.refl _ _).alloc (Nat.le_refl _) _).alloc (by simp) _⟩

theorem Ybad.size37 : (Ybad.prog.info? 37).map (·.size) = some 2 := by kernel_rfl
/-- What a call behind a new Decimal leaves of it. -/
structure New37 (w w1 : World) : Prop where
  c0 : w1.cell? ⟨w.heap.size, 0, none⟩ = some (.pointer none)
  c1 : w1.cell? ⟨w.heap.size, 1, none⟩ = some (.int .i64 0)
  f0 : w1.frozen? ⟨w.heap.size, 0, none⟩ = false
  f1 : w1.frozen? ⟨w.heap.size, 1, none⟩ = false
  hh : w1.heap[w.heap.size]? = some (.cells #[.pointer none, .int .i64 0] 37 (0, 0))
theorem new37 {w w1 : World} (hb : w1.heap[w.heap.size]? = some (.cells #[.pointer none, .int .i64 0] 37 (0, 0))) : New37 w w1 where
  c0 := by rw [cell_of_row _ _ _ _ _ _ hb]; rfl
  c1 := by rw [cell_of_row _ _ _ _ _ _ hb]; rfl
  f0 := frozen_of_row _ _ _ _ _ hb
  f1 := frozen_of_row _ _ _ _ _ hb
  hh := hb

theorem fromUint_any (u : Nat) (h0 : 0 < u) (hu : u < 18446744073709551616) (w : World) :
    Calls Ybad.prog 9 #[.int .u64 u] w fun e w' => (∃ p, e = .returned (.agg #[.pointer (some p), .int .i64 0])) ∧ Below w.heap.size w w' := by
  go_enter Ybad.func9, Ybad.ntmps9
  go_wp2_with (go_at_call 12; refine (setUint_any (w.heap.size + 1) u false h0 hu _ (by simp) (by go_simp) (by go_simp) (by go_simp) (by go_simp)).mono ?_; rintro e w1 ⟨rfl, hB⟩; have HB : Hid (Below w.heap.size w w1) := (((Below.refl _ _).alloc (Nat.le_refl _) _).alloc (by simp) _).trans (hB.mono (by simp)); have hN : New37 w w1 := new37 (by rw [hB.block _ (by simp), Below.heap_alloc _ _ _ (by simp), _root_.Go.heap_alloc_new]); have hc0 := hN.c0; have hc1 := hN.c1; have hf0 := hN.f0; have hf1 := hN.f1; have HH := hN.hh; clear hB hN)
  refine bodyPost_ret (results_cell_row rfl _ _ w.heap.size 37 _ (0, 0) _ rfl (_root_.Go.heap_setCell_same _ _ _ _ _ _ (_root_.Go.heap_setCell_same _ _ _ _ _ _ HH)) Ybad.underlying37 rfl Ybad.size37) rfl ?_
  exact ⟨⟨_, rfl⟩, (HB.out.setCell (Nat.le_refl _) _).setCell (Nat.le_refl _) _⟩

theorem fromInt_any (n : Int) (h0 : -9223372036854775808 ≤ n) (h1 : n ≤ 9223372036854775807) (w : World) :
    Calls Ybad.prog 10 #[.int .i64 n] w fun e w' => (∃ p, e = .returned (.agg #[.pointer (some p), .int .i64 0])) ∧ Below w.heap.size w w' := by
  go_enter Ybad.func10, Ybad.ntmps10
  go_wp2_with (go_at_call 13; refine (newInt_any n h0 h1 _).mono ?_; rintro e w1 ⟨⟨p, rfl⟩, hB⟩; have HB : Hid (Below w.heap.size w w1) := ((Below.refl _ _).alloc (Nat.le_refl _) _).trans (hB.mono (by simp)); have hN : New37 w w1 := new37 (by rw [hB.block _ (by simp), _root_.Go.heap_alloc_new]); have hc0 := hN.c0; have hc1 := hN.c1; have hf0 := hN.f0; have hf1 := hN.f1; have HH := hN.hh; clear hB hN)
  refine bodyPost_ret (results_cell_row rfl _ _ w.heap.size 37 _ (0, 0) _ rfl (_root_.Go.heap_setCell_same _ _ _ _ _ _ (_root_.Go.heap_setCell_same _ _ _ _ _ _ HH)) Ybad.underlying37 rfl Ybad.size37) rfl ?_
  exact ⟨⟨_, rfl⟩, (HB.out.setCell (Nat.le_refl _) _).setCell (Nat.le_refl _) _⟩
end Go.Proofs.YbulkbvhaDoor
