/-
  A small kit of our own: a block that holds integers and nothing else ('Row'), and a law on 'make' that leaves such a block. No program in it.
-/
import Derived.WalkKit
import Derived.ProofKit
import Derived.Below
import Derived.Laws.BytesArg
namespace Go.Proofs.YbulkbvhaDoor
open Go.RowKit

/-- Block g of world w holds the integers zs (kind k, element type e), no cell of it frozen. -/
def Row (w : World) (g : Nat) (e : TypeId) (k : IntKind) (zs : List Int) : Prop :=
  w.heap[g]? = some (.cells (zs.map (Value.int k)).toArray e (0, 0))

section
variable {w w' : World} {g : Nat} {e : TypeId} {k : IntKind} {zs : List Int}

theorem Row.cell (h : Row w g e k zs) (j : Nat) (hj : j < zs.length) : w.cell? ⟨g, j, none⟩ = some (.int k (zs.getD j 0)) := by
  rw [cell_of_row w g j _ e (0, 0) h]
  simp [List.getElem?_eq_getElem hj]
theorem Row.cell' (h : Row w g e k zs) (j : Nat) (hj : j < zs.length) : w.cell? ⟨g, j, none⟩ = some (.int k (zs[j]?.getD 0)) := by
  rw [cell_of_row w g j _ e (0, 0) h]
  simp [List.getElem?_eq_getElem hj]
theorem Row.free (h : Row w g e k zs) (j : Nat) : w.frozen? ⟨g, j, none⟩ = false := frozen_of_row w g j _ e h
theorem Row.lt (h : Row w g e k zs) : g < w.heap.size := (Array.getElem?_eq_some_iff.1 h).1
theorem Row.store (h : Row w g e k zs) (j : Nat) (v : Int) : Row (w.setCell ⟨g, j, none⟩ (.int k v)) g e k (zs.set j v) := by
  unfold Row
  rw [heap_setCell_same w g j _ e (.int k v) h, List.map_set]
  simp
theorem Row.other (h : Row w g e k zs) {a : Addr} (ha : g ≠ a.block) (v : Value) : Row (w.setCell a v) g e k zs := by
  unfold Row
  rw [heap_setCell_other w a g v ha]
  exact h
theorem Row.alloc (h : Row w g e k zs) (o : Obj) : Row (w.alloc o) g e k zs := by
  unfold Row
  rw [Below.heap_alloc w o g h.lt]
  exact h
theorem Row.drew (h : Row w g e k zs) : Row w.drew g e k zs := h
theorem Row.below {B : Nat} (h : Row w g e k zs) (hb : Below B w w') (hg : g < B) : Row w' g e k zs := by
  unfold Row
  rw [hb.block g hg]
  exact h
theorem Row.same {zs' : List Int} (h : Row w g e k zs) (hz : zs = zs') : Row w g e k zs' := hz ▸ h
theorem madeRow (z : Int) (n : Nat) : madeCells (Value.int k z).cells (n * 1) = ((List.replicate n z).map (Value.int k)).toArray := by
  apply Array.toList_inj.1
  rw [show (Value.int k z).cells = #[Value.int k z] from rfl, Nat.mul_one, toList_madeCells_one]
  simp
theorem Row.made (w : World) (e : TypeId) (k : IntKind) (n : Nat) : Row (w.alloc (.cells (madeCells (Value.int k 0).cells (n * 1)) e)) w.heap.size e k (List.replicate n 0) := by
  unfold Row
  rw [_root_.Go.heap_alloc_new, madeRow]
end

/-- 'make([]T, n)', T an integer type: a new block of n noughts; nothing else has turned. -/
theorem wpList_make_row {P : Program} (w : World) {ops : Array Oper} {rest : List Oper} {o : Oper} {a : Act} {Q : Exit → Act → World → Prop}
    (hg : o.guard = none) (l c : Operand) (t : TypeId) (hop : o.op = Op.makeSlice t l c)
    (e : TypeId) (k : IntKind) (by' : Nat) (h1 : P.underlying t = some (.slice e)) (h2 : (P.info? e).map (fun i => (i.zero, i.size, i.bytes)) = some (some (.int k 0), 1, by'))
    (kl kc : IntKind) (L C : Int) (n : Nat) (hl : a.eval l = .int kl L) (hc : a.eval c = .int kc C) (hL : L = (n : Int)) (hC : C = (n : Int)) (b2 : by' * n ≤ 281474976710656) (b3 : n ≤ maxLen)
    (hK : ∀ w', Row w' w.heap.size e k (List.replicate n 0) → Below w.heap.size w w' → w'.heap.size = w.heap.size + 1 → wpList P ops Q rest (a.put o.dst (.slice (some ⟨w.heap.size, 0, none⟩) n n)) w') :
    wpList P ops Q (o :: rest) a w := by
  obtain ⟨i, hi, hz0, hz1, hz2⟩ := info_parts h2
  subst hz2
  refine wpList_plain hg fun K hK' => ?_
  subst hL
  subst hC
  have hb' : (i.bytes : Int) * (n : Int) ≤ 281474976710656 := by
    have h : ((i.bytes * n : Nat) : Int) ≤ 281474976710656 := by omega
    rwa [Int.natCast_mul] at h
  have hrun := run_make (P := P) w t e i (.int k 0) h1 hi hz0 kl kc n n (by omega) (Int.le_refl _) hb' (by simp only [maxLen] at b3; omega)
  simp only [Int.toNat_natCast, hz1] at hrun
  unfold Oper.wp
  simp [execOp, hop, hl, hc, hrun, Result.andThen]
  refine hK' _ _ (hK _ ?_ ?_ ?_)
  · have := Row.made w e k n
    simpa using this
  · exact (Below.refl _ _).alloc (Nat.le_refl _) _
  · simp

/-- The same, the new world written out. -/
theorem wpList_make_at {P : Program} (w : World) {ops : Array Oper} {rest : List Oper} {o : Oper} {a : Act} {Q : Exit → Act → World → Prop}
    (hg : o.guard = none) (l c : Operand) (t : TypeId) (hop : o.op = Op.makeSlice t l c)
    (e : TypeId) (k : IntKind) (by' : Nat) (h1 : P.underlying t = some (.slice e)) (h2 : (P.info? e).map (fun i => (i.zero, i.size, i.bytes)) = some (some (.int k 0), 1, by'))
    (kl kc : IntKind) (L C : Int) (n : Nat) (hl : a.eval l = .int kl L) (hc : a.eval c = .int kc C) (hL : L = (n : Int)) (hC : C = (n : Int)) (b2 : by' * n ≤ 281474976710656) (b3 : n ≤ maxLen)
    (hK : ∀ cs, Hid (cs = ((List.replicate n 0).map (Value.int k)).toArray) → wpList P ops Q rest (a.put o.dst (.slice (some ⟨w.heap.size, 0, none⟩) n n)) (w.alloc (.cells cs e))) :
    wpList P ops Q (o :: rest) a w := by
  obtain ⟨i, hi, hz0, hz1, hz2⟩ := info_parts h2
  subst hz2
  refine wpList_plain hg fun K hK' => ?_
  subst hL
  subst hC
  have hb' : (i.bytes : Int) * (n : Int) ≤ 281474976710656 := by
    have h : ((i.bytes * n : Nat) : Int) ≤ 281474976710656 := by omega
    rwa [Int.natCast_mul] at h
  have hrun := run_make (P := P) w t e i (.int k 0) h1 hi hz0 kl kc n n (by omega) (Int.le_refl _) hb' (by simp only [maxLen] at b3; omega)
  simp only [Int.toNat_natCast, hz1] at hrun
  rw [madeRow] at hrun
  unfold Oper.wp
  simp [execOp, hop, hl, hc, hrun, Result.andThen]
  refine hK' _ _ ?_
  have := hK _ rfl
  simpa using this
theorem Row.at (w : World) (e : TypeId) (k : IntKind) (zs : List Int) {cs : Array Value} (h : cs = (zs.map (Value.int k)).toArray) : Row (w.alloc (.cells cs e)) w.heap.size e k zs := by
  unfold Row
  rw [_root_.Go.heap_alloc_new, h]

theorem ret_int {k : IntKind} {a b : Int} (h : a = b) : Ending.returned (.int k a) = .returned (.int k b) := by rw [h]
theorem bcell {W w1 : World} (hb : Below W.heap.size W w1) : (∀ b o, b < W.heap.size → w1.cell? ⟨b, o, none⟩ = W.cell? ⟨b, o, none⟩) ∧ (∀ b o, b < W.heap.size → w1.frozen? ⟨b, o, none⟩ = W.frozen? ⟨b, o, none⟩) :=
  ⟨fun b o h => hb.cell (p := ⟨b, o, none⟩) h, fun b o h => hb.frozen (p := ⟨b, o, none⟩) h⟩
end Go.Proofs.YbulkbvhaDoor
