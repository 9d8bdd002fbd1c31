/-
  What a walk is told of a slice of integers that came in.
-/
import Derived.Test.YbulkbvaoKit
import Derived.OpenShut
namespace Go.Proofs.Ybulkbvao
open Go.RowKit
/-- The slice's n elements are the numbers zs (where there is one: its address is plain and its cells hold them). -/
def Elems (k : IntKind) (w : World) (a : Option Addr) (n : Nat) (zs : List Int) : Prop :=
  zs.length = n ∧ (0 < n → ∃ b off, a = some ⟨b, off, none⟩ ∧ b < w.heap.size ∧ ∀ i, i < n → w.cell? ⟨b, off + i, none⟩ = some (.int k (zs[i]?.getD 0)))
theorem Elems.of {k : IntKind} {w : World} {a : Option Addr} {len cap : Nat} {zs : List Int}
    (h : (a = none ∧ len = 0 ∧ cap = 0 ∧ zs = []) ∨ ∃ x, a = some x ∧ len ≤ cap ∧ cap ≤ maxLen ∧ zs.length = cap ∧ (∀ i, i < zs.length → w.cell? (x.add i) = some (.int k (zs.getD i 0))) ∧ ∀ n ∈ zs, (Lit.int k n).wf = true) :
    Elems k w a len (zs.take len) ∧ ∀ n ∈ zs.take len, (Lit.int k n).wf = true := by
  rcases h with ⟨rfl, rfl, rfl, rfl⟩ | ⟨x, rfl, hl, _, hz, hc, hw⟩
  · exact ⟨⟨rfl, fun h => absurd h (by omega)⟩, by simp⟩
  · refine ⟨⟨by simp; omega, fun h0 => ?_⟩, fun n hn => hw n (List.mem_of_mem_take hn)⟩
    obtain ⟨b, off, rfl, hc'⟩ := ints_at hc (by omega)
    refine ⟨b, off, rfl, World.block_lt_of_cell? w _ (hc' 0 (by omega)), fun i hi => ?_⟩
    rw [hc' i (by omega), List.getElem?_take, if_pos hi]
    simp
end Go.Proofs.Ybulkbvao
