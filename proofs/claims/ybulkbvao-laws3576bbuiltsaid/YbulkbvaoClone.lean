/-
  slices.Clone[[]int,int] by contracts.
-/
import Derived.Test.YbulkbvaoModel
import Derived.Lib.LazyBuf
namespace Go.Proofs.Ybulkbvao
open Go.RowKit
theorem Yba.info3 : (Yba.prog.info? 3).map (fun i => (i.zero, i.size, i.bytes)) = some (some (.int .i64 0), 1, 8) := by kernel_rfl

theorem clone_nil (n c : Nat) (w : World) :
    Calls Yba.prog 9 #[.slice none n c] w fun e w' => e = .returned (.slice none 0 0) ∧ w' = w := by
  have hnil := fun w => run_eql_slice_nil (P := Yba.prog) w 28 3 none n c Yba.underlying28
  go_enter Yba.func9, Yba.ntmps9
  go_wp2
  go_ret
  exact ⟨rfl, rfl⟩

/-- What the call owns, as elements. -/
theorem elems_of_owns {w : World} {base : Nat} {v : Value} {n : Nat} {zs : List Int} (h : w.ownsRow base 3 1 v n (zs.map (Value.int .i64))) :
    ∃ a cap, v = .slice a n cap ∧ Elems .i64 w a n zs ∧ n ≤ cap ∧ ∀ g, v.ownBlock = some g → base ≤ g := by
  have hl : zs.length = n := by have := h.1; simpa using this
  rcases h.2 with ⟨rfl, rfl⟩ | ⟨g, cap, cur, rfl, hb, hg, hc, _, _, ht⟩
  · exact ⟨none, 0, rfl, ⟨hl, fun h => absurd h (by omega)⟩, Nat.le_refl _, fun g hg => by simp [Value.ownBlock] at hg⟩
  · refine ⟨some ⟨g, 0, none⟩, cap, rfl, ⟨hl, fun _ => ⟨g, 0, rfl, (Array.getElem?_eq_some_iff.1 hg).1, fun i hi => ?_⟩⟩, hc, fun g' hg' => by simp [Value.ownBlock] at hg'; omega⟩
    have := h.cellAt i (by omega)
    rw [Nat.zero_add, this, List.getElem?_map, List.getElem?_eq_getElem (by omega)]
    rfl

set_option maxHeartbeats 1000000 in
theorem clone_any (ad : Addr) (n c : Nat) (zs : List Int) (w : World) (hn : n ≤ 1000000) (hE : Elems .i64 w (some ad) n zs) :
    Calls Yba.prog 9 #[.slice (some ad) n c] w fun e w' => ∃ a cap, e = .returned (.slice a n cap) ∧ Elems .i64 w' a n zs ∧ (a = none → n = 0 ∧ cap = 0) ∧ Below w.heap.size w w' := by
  have hnil := fun w => run_eql_slice_nil (P := Yba.prog) w 28 3 (some ad) n c Yba.underlying28
  obtain ⟨i0, hi, hz0, hz1, hz2⟩ := info_parts Yba.info3
  have hown0 : (w.alloc (Obj.cells #[] 3)).ownsRow w.heap.size 3 1 (.slice (some ⟨w.heap.size, 0, none⟩) 0 0) 0 [] := World.ownsRow_lit w #[] 0 (Nat.le_refl _) (by unfold maxLen; omega) rfl
  have hsrc : ∀ j u, (zs.map (Value.int .i64))[j]? = some u → (w.alloc (Obj.cells #[] 3)).cell? (ad.add j) = some u := by
    intro j u hj
    have hj' : j < zs.length := by have := (List.getElem?_eq_some_iff.1 hj).1; simpa using this
    obtain ⟨hl, hc0⟩ := hE
    obtain ⟨b, off, e, hb, hc⟩ := hc0 (by omega)
    obtain rfl := Option.some.inj e
    rw [Addr.add_lit, World.cell?_alloc_lt _ _ _ hb, hc j (by omega)]
    rw [List.getElem?_map, List.getElem?_eq_getElem hj'] at hj
    rw [List.getElem?_eq_getElem hj']
    exact hj
  have hlen : (zs.map (Value.int .i64)).length = n * 1 := by simpa using hE.1
  have HL : Hid _ := hlen
  have HSRC : Hid _ := hsrc
  clear hlen hsrc hE
  go_enter Yba.func9, Yba.ntmps9
  go_wp2_with (at_builtin; refine wpList_append_own _ rfl (.tmp 5) (.tmp 6) 28 rfl w.heap.size 3 i0 (.int .i64 0) 1 8 Yba.underlying28 hi hz0 hz1 hz2 rfl (by decide) _ 0 [] rfl hown0 ad n c (zs.map (Value.int .i64)) rfl HL.out HSRC.out (ints_oneCell _ _) (by unfold maxLen; omega) (by omega) (by simp) ?_; intro v' w1 hown hgrow hv)
  rw [Nat.zero_add, List.nil_append] at hown
  obtain ⟨a, cap, rfl, hE1, _, _⟩ := elems_of_owns hown
  have hnn : a = none → n = 0 ∧ cap = 0 := by
    rintro rfl
    rcases hown.2 with ⟨h, h0⟩ | ⟨g, cap', cur, h, _⟩
    · simp only [Value.slice.injEq] at h; exact ⟨h0, h.2.2⟩
    · simp at h
  have hB : Below w.heap.size w w1 := ((Below.refl _ _).alloc (Nat.le_refl _) _).grown hgrow (by simp) (fun k hk => by have e : some w.heap.size = some k := hk; cases e; exact Nat.le_refl _)
  clear hown hgrow hv hown0
  go_wp2
  go_ret
  exact ⟨a, cap, rfl, hE1, hnn, hB⟩
end Go.Proofs.Ybulkbvao
