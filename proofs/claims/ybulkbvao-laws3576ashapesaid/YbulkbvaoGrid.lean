/-
  'newGrid' by a contract.
-/
import Derived.Test.YbulkbvaoRows
import Derived.Test.YbulkbvaoKit
namespace Go.Proofs.Ybulkbvao
open Go.RowKit
theorem Yba.info21 : (Yba.prog.info? 21).map (fun i => (i.zero, i.size, i.bytes)) = some (some (.int .i32 0), 1, 4) := by kernel_rfl

set_option maxHeartbeats 400000 in
theorem grid_any (a : Int) (m : Nat) (w : World) (h0 : -1024 ≤ a + 3) (h1 : a + 3 ≤ 1027) (hn : (a + 3) * (a + 3) = (m : Int)) (hm : m ≤ 1054729) :
    Calls Yba.prog 8 #[.int .i64 a] w fun e w' => ∃ g, e = .returned (.agg #[.int .i64 (a + 3), .slice (some ⟨g, 0, none⟩) m m]) ∧ Row w' g 21 .i32 (List.replicate m 0) ∧ Grown w w' := by
  go_enter Yba.func8, Yba.ntmps8
  go_wp2_with (at_make; refine wpList_make_at _ rfl _ _ 22 rfl 21 .i32 4 Yba.underlying22 Yba.info21 .i64 .i64 _ _ m rfl rfl rfl rfl (by omega) (by unfold maxLen; omega) ?_; intro cs hcs)
  refine bodyPost_ret (v := .agg #[.int .i64 (a + 3), .slice (some ⟨w.heap.size + 1, 0, none⟩) m m]) (by simp [results, Yba.results8, go_sem]) rfl ⟨w.heap.size + 1, rfl, ?_, ((Grown.refl _).alloc _ _).alloc _ _⟩
  have := Row.at (w.alloc (Obj.cells #[Value.int IntKind.i64 (a + 3), Value.slice (some ⟨w.heap.size + 1, 0, none⟩) m m] 24)) 21 .i32 _ hcs.out
  simpa using this
end Go.Proofs.Ybulkbvao
