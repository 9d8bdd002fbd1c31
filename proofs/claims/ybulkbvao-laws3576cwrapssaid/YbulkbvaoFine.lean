/-
  'zzs3576cfine' by a contract.
-/
import Derived.Test.YbulkbvaoRefine
namespace Go.Proofs.Ybulkbvao
open Go.RowKit
theorem Yba.info21' : (Yba.prog.info? 21).map (fun i => (i.zero, i.size, i.bytes)) = some (some (.int .i32 0), 1, 4) := by kernel_rfl

/-- k cells set, the rest of n noughts. -/
def filled (s : Int) (n k : Nat) : List Int := List.replicate k s ++ List.replicate (n - k) 0
theorem filled_length (s : Int) (n k : Nat) (h : k ≤ n) : (filled s n k).length = n := by simp [filled]; omega
theorem filled_step (s : Int) (n k : Nat) (h : k < n) : (filled s n k).set k s = filled s n (k + 1) := by
  unfold filled
  have e : (List.replicate (n - k) (0 : Int)) = 0 :: List.replicate (n - (k + 1)) 0 := by
    rw [← List.replicate_succ]; congr 1; omega
  rw [e, List.set_append_right _ _ (by simp)]
  simp [List.replicate_succ']

set_option maxHeartbeats 1000000 in
theorem fine_any (n m : Nat) (s : Int) (w : World) (hn : n ≤ 1024) (hm : m = cnt n) :
    Calls Yba.prog 14 #[.int .i64 n, .int .i32 s] w fun e w' => e = .returned (.tuple #[.slice (some ⟨w.heap.size, 0, none⟩) (m + 2) (m + 2), .int .i64 m]) ∧ Row w' w.heap.size 21 .i32 (List.replicate (m + 2) s) ∧ Below w.heap.size w w' := by
  have hm2 : (2 ≤ n ∧ m = 2 * n - 3) ∨ (n < 2 ∧ m = 0) := by rw [hm]; unfold cnt; split <;> omega
  clear hm
  suffices H : ∀ (m : Nat), ((2 ≤ n ∧ (m : Int) = 2 * n - 3) ∨ (n < 2 ∧ m = 0)) → Calls Yba.prog 14 #[.int .i64 n, .int .i32 s] w fun e w' => e = .returned (.tuple #[.slice (some ⟨w.heap.size, 0, none⟩) (m + 2) (m + 2), .int .i64 m]) ∧ Row w' w.heap.size 21 .i32 (List.replicate (m + 2) s) ∧ Below w.heap.size w w' from H m (by omega)
  clear hm2 m
  intro m hm
  have hmb : m ≤ 2045 := by omega
  obtain ⟨N, hN⟩ : ∃ N, N = m + 2 := ⟨_, rfl⟩
  have fin : ∀ (wr : World) (k : Nat), Row wr w.heap.size 21 .i32 (filled s N k) → k = N → Row wr w.heap.size 21 .i32 (List.replicate (m + 2) s) := fun wr k h hk => h.same (by subst hk; simp [filled, hN])
  rcases hm with ⟨h2, hm⟩ | ⟨h2, hm⟩
  · have hmm : 2 * (n : Int) - 3 = (m : Int) := by omega
    have hmN : (m : Int) + 2 = (N : Int) := by omega
    have HN : Hid (N = m + 2) := hN
    have HM : Hid ((m : Int) = 2 * n - 3) := hm
    rw [← hN]
    clear hm hN
    go_enter Yba.func14, Yba.ntmps14
    go_wp2_with (at_make; refine wpList_make_row _ rfl _ _ 22 rfl 21 .i32 4 Yba.underlying22 Yba.info21' .i64 .i64 _ _ N rfl rfl rfl rfl (by have := HN.out; omega) (by have := HN.out; unfold maxLen; omega) ?_; intro w1 hR hB hS)
    go_loopw [19] (fun i wr => ∃ k : Nat, k ≤ N ∧ i = .int .i64 k ∧ Row wr w.heap.size 21 .i32 (filled s N k) ∧ Below w.heap.size w wr) (fun i _ => N - (intOf i).toNat)
    case atStart => exact ⟨0, Nat.zero_le _, rfl, hR.same (by simp [filled]), hB⟩
    case round =>
      obtain ⟨k, hk, rfl, hRr, hBr⟩ := hrel
      clear hR hB hS
      by_cases hlt : k < N
      · have h2 := hRr.cell' k (by rw [filled_length _ _ _ hk]; omega)
        have h3 := hRr.free k
        have hrow := hRr.store k s
        rw [filled_step s N k hlt] at hrow
        have hbl := hBr.setCell (p := ⟨w.heap.size, k, none⟩) (Nat.le_refl _) (.int .i32 s)
        generalize (filled s N k)[k]?.getD 0 = x2 at h2
        clear hRr hBr fin
        go_wp2
        go_roundw
        case rel => exact ⟨k + 1, by omega, by go_num, hrow, hbl⟩
        case measure => simp [intOf]; omega
      · have hf := fin _ _ hRr (by omega)
        clear fin hRr
        go_wp2
        go_ret2
        exact ⟨rfl, hf.same (by rw [HN.out]), hBr⟩
  · subst hm
    have HN : Hid (N = 0 + 2) := hN
    subst hN
    go_enter Yba.func14, Yba.ntmps14
    go_wp2_with (at_make; refine wpList_make_row _ rfl _ _ 22 rfl 21 .i32 4 Yba.underlying22 Yba.info21' .i64 .i64 _ _ 2 rfl rfl rfl rfl (by omega) (by unfold maxLen; omega) ?_; intro w1 hR hB hS)
    go_loopw [19] (fun i wr => ∃ k : Nat, k ≤ 2 ∧ i = .int .i64 k ∧ Row wr w.heap.size 21 .i32 (filled s 2 k) ∧ Below w.heap.size w wr) (fun i _ => 2 - (intOf i).toNat)
    case atStart => exact ⟨0, Nat.zero_le _, rfl, hR.same (by simp [filled]), hB⟩
    case round =>
      obtain ⟨k, hk, rfl, hRr, hBr⟩ := hrel
      clear hR hB hS
      by_cases hlt : k < 2
      · have h2 := hRr.cell' k (by rw [filled_length _ _ _ hk]; omega)
        have h3 := hRr.free k
        have hrow := hRr.store k s
        rw [filled_step s 2 k hlt] at hrow
        have hbl := hBr.setCell (p := ⟨w.heap.size, k, none⟩) (Nat.le_refl _) (.int .i32 s)
        generalize (filled s 2 k)[k]?.getD 0 = x2 at h2
        clear hRr hBr fin
        go_wp2
        go_roundw
        case rel => exact ⟨k + 1, by omega, by go_num, hrow, hbl⟩
        case measure => simp [intOf]; omega
      · have hf := fin _ _ hRr (by omega)
        clear fin hRr
        go_wp2
        go_ret2
        exact ⟨rfl, hf, hBr⟩
end Go.Proofs.Ybulkbvao
