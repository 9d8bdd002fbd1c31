/-
  What the second loop of 'newWaitlist' holds of memory, and how each statement of its round hands it on. No walk in it.
-/
import Derived.Test.YbulkbvaoHeld
import Derived.OneCell
namespace Go.Proofs.Ybulkbvao
open Go.RowKit

/-- Two rows of other element types lie in other blocks. -/
theorem owns_apart {w : World} {base base' e e' : Nat} {v v' : Value} {n n' : Nat} {xs xs' : List Value} (h : w.ownsRow base e 1 v n xs) (h' : w.ownsRow base' e' 1 v' n' xs') (hne : e ≠ e') :
    v.ownBlock = none ∨ v.ownBlock ≠ v'.ownBlock := by
  rcases h.2 with ⟨rfl, _⟩ | ⟨g, cap, cur, rfl, _, hg, _⟩
  · exact .inl rfl
  · right
    rcases h'.2 with ⟨rfl, _⟩ | ⟨g', cap', cur', rfl, _, hg', _⟩
    · simp [Value.ownBlock]
    · intro e1
      simp [Value.ownBlock] at e1
      subst e1
      rw [hg] at hg'
      simp only [Option.some.injEq, Obj.cells.injEq] at hg'
      exact hne hg'.2.1
theorem owns_low {w : World} {base e : Nat} {v : Value} {n : Nat} {xs : List Value} (h : w.ownsRow base e 1 v n xs) {b : Nat} (hb : b < base) : some b ≠ v.ownBlock := by
  intro h'
  have := (h.lt b h'.symm).1
  omega

structure Inv (w0 wr : World) (b1 b2 b3 base : Nat) (a : Option Addr) (n c : Nat) (ords L : List Int) (aL : Option Addr) (cL : Nat) (rs : List Value) (aR : Option Addr) (cR : Nat) : Prop where
  box : wr.heap[b1]? = some (.cells #[.slice a n c] 28 (0, 0))
  st : wr.heap[b2]? = some (.cells #[.slice aL L.length cL, .slice aR rs.length cR] 34 (0, 0))
  ord : Row wr b3 3 .i64 ords
  ownL : wr.ownsRow base 3 1 (.slice aL L.length cL) L.length (L.map (Value.int .i64))
  ownR : wr.ownsRow base 28 1 (.slice aR rs.length cR) rs.length rs
  l1 : b1 < base
  l2 : b2 < base
  l3 : b3 < base
  n12 : b1 ≠ b2
  n23 : b2 ≠ b3
  hbase : base ≤ wr.heap.size
  low : w0.heap.size ≤ b2
  lowb : w0.heap.size ≤ base
  bel : Below w0.heap.size w0 wr

section
variable {w0 wr : World} {b1 b2 b3 base : Nat} {a : Option Addr} {n c : Nat} {ords L : List Int} {aL : Option Addr} {cL : Nat} {rs : List Value} {aR : Option Addr} {cR : Nat}

theorem Inv.drewN (h : Inv w0 wr b1 b2 b3 base a n c ords L aL cL rs aR cR) (q : Nat) : Inv w0 (wr.drewN q) b1 b2 b3 base a n c ords L aL cL rs aR cR :=
  ⟨h.box, h.st, h.ord, h.ownL, h.ownR, h.l1, h.l2, h.l3, h.n12, h.n23, h.hbase, h.low, h.lowb, ⟨h.bel.os, h.bel.tape, h.bel.output, h.bel.size, h.bel.block⟩⟩
theorem Inv.drew (h : Inv w0 wr b1 b2 b3 base a n c ords L aL cL rs aR cR) : Inv w0 wr.drew b1 b2 b3 base a n c ords L aL cL rs aR cR := h.drewN 1
theorem Inv.alloc (h : Inv w0 wr b1 b2 b3 base a n c ords L aL cL rs aR cR) (o : Obj) : Inv w0 (wr.alloc o) b1 b2 b3 base a n c ords L aL cL rs aR cR := by
  have hb := h.hbase
  have h1 := h.l1
  have h2 := h.l2
  refine ⟨?_, ?_, h.ord.alloc o, h.ownL.alloc o, h.ownR.alloc o, h.l1, h.l2, h.l3, h.n12, h.n23, by simp; omega, h.low, h.lowb, h.bel.alloc h.bel.size o⟩
  · rw [Below.heap_alloc _ _ _ (by omega)]; exact h.box
  · rw [Below.heap_alloc _ _ _ (by omega)]; exact h.st

/-- The cells that the walk reads. -/
theorem Inv.cellB (h : Inv w0 wr b1 b2 b3 base a n c ords L aL cL rs aR cR) : wr.cell? ⟨b1, 0, none⟩ = some (.slice a n c) := by simp [World.cell?, h.box]
theorem Inv.cellL (h : Inv w0 wr b1 b2 b3 base a n c ords L aL cL rs aR cR) : wr.cell? ⟨b2, 0, none⟩ = some (.slice aL L.length cL) := by simp [World.cell?, h.st]
theorem Inv.cellR (h : Inv w0 wr b1 b2 b3 base a n c ords L aL cL rs aR cR) : wr.cell? ⟨b2, 1, none⟩ = some (.slice aR rs.length cR) := by simp [World.cell?, h.st]
theorem Inv.fr (h : Inv w0 wr b1 b2 b3 base a n c ords L aL cL rs aR cR) (j : Nat) : wr.frozen? ⟨b2, j, none⟩ = false := by simp [World.frozen?, h.st]

/-- A step that writes one of the call's own rows, or none: what is not in that row stays. -/
theorem Inv.keep {row : Option Nat} {w1 : World} (h : Inv w0 wr b1 b2 b3 base a n c ords L aL cL rs aR cR) (hg : wr.grownBy w1 row) (hrow : ∀ k, row = some k → base ≤ k) :
    w1.heap[b1]? = some (.cells #[.slice a n c] 28 (0, 0)) ∧ w1.heap[b2]? = some (.cells #[.slice aL L.length cL, .slice aR rs.length cR] 34 (0, 0)) ∧ Row w1 b3 3 .i64 ords ∧ base ≤ w1.heap.size ∧ Below w0.heap.size w0 w1 := by
  have hb := h.hbase
  have h1 := h.l1
  have h2 := h.l2
  have h3 := h.l3
  have hlow := h.lowb
  have e : ∀ k, k < base → w1.heap[k]? = wr.heap[k]? := fun k hk => hg.block k (by omega) (fun e => by have := hrow k e.symm; omega)
  refine ⟨by rw [e _ h1]; exact h.box, by rw [e _ h2]; exact h.st, ?_, by have := hg.size; omega, h.bel.grown hg (by omega) (fun k hk => by have := hrow k hk; omega)⟩
  unfold Row
  rw [e _ h3]
  exact h.ord

/-- 'w.lengths = append(w.lengths, v)'. -/
theorem Inv.addL {w1 : World} {v : Int} {a' : Option Addr} {cap' : Nat} (h : Inv w0 wr b1 b2 b3 base a n c ords L aL cL rs aR cR)
    (hown : w1.ownsRow base 3 1 (.slice a' (L.length + 1) cap') (L.length + 1) (L.map (Value.int .i64) ++ [.int .i64 v])) (hg : wr.grownBy w1 (Value.ownBlock (.slice aL L.length cL))) :
    Inv w0 (w1.setCell ⟨b2, 0, none⟩ (.slice a' (L.length + 1) cap')) b1 b2 b3 base a n c ords (L ++ [v]) a' cap' rs aR cR := by
  obtain ⟨k1, k2, k3, k4, k5⟩ := h.keep hg (fun k hk => (h.ownL.lt k hk).1)
  have hR : w1.ownsRow base 28 1 (.slice aR rs.length cR) rs.length rs := h.ownR.kept hg (owns_apart h.ownR h.ownL (by decide))
  refine ⟨?_, ?_, k3.other (fun e => h.n23 e.symm) _, ?_, ownsRow_setCell_below hR h.l2 _, h.l1, h.l2, h.l3, h.n12, h.n23, by simpa [World.setCell] using k4, h.low, h.lowb, k5.setCell h.low _⟩
  · rw [Below.heap_setCell _ _ _ _ h.n12]; exact k1
  · have := heap_setCell_same w1 b2 0 _ 34 (.slice a' (L.length + 1) cap') k2
    rw [this]; simp
  · have := ownsRow_setCell_below hown (a := ⟨b2, 0, none⟩) h.l2 (.slice a' (L.length + 1) cap')
    simpa using this

/-- 'w.routes = append(w.routes, nil)'. -/
theorem Inv.addR {w1 : World} {u : Value} {a' : Option Addr} {cap' : Nat} (h : Inv w0 wr b1 b2 b3 base a n c ords L aL cL rs aR cR)
    (hown : w1.ownsRow base 28 1 (.slice a' (rs.length + 1) cap') (rs.length + 1) (rs ++ [u])) (hg : wr.grownBy w1 (Value.ownBlock (.slice aR rs.length cR))) :
    Inv w0 (w1.setCell ⟨b2, 1, none⟩ (.slice a' (rs.length + 1) cap')) b1 b2 b3 base a n c ords L aL cL (rs ++ [u]) a' cap' := by
  obtain ⟨k1, k2, k3, k4, k5⟩ := h.keep hg (fun k hk => (h.ownR.lt k hk).1)
  have hL : w1.ownsRow base 3 1 (.slice aL L.length cL) L.length (L.map (Value.int .i64)) := h.ownL.kept hg (owns_apart h.ownL h.ownR (by decide))
  refine ⟨?_, ?_, k3.other (fun e => h.n23 e.symm) _, ownsRow_setCell_below hL h.l2 _, ?_, h.l1, h.l2, h.l3, h.n12, h.n23, by simpa [World.setCell] using k4, h.low, h.lowb, k5.setCell h.low _⟩
  · rw [Below.heap_setCell _ _ _ _ h.n12]; exact k1
  · have := heap_setCell_same w1 b2 1 _ 34 (.slice a' (rs.length + 1) cap') k2
    rw [this]; simp
  · have := ownsRow_setCell_below hown (a := ⟨b2, 1, none⟩) h.l2 (.slice a' (rs.length + 1) cap')
    simpa using this

/-- The last of the routes: it owns what it holds, and not the lengths' row. -/
structure Last (wr : World) (base : Nat) (aL : Option Addr) (nL cL : Nat) (rs0 : List Value) (rs : List Value) (la : Option Addr) (lm lc : Nat) (xs : List Value) : Prop where
  eq : rs = rs0 ++ [.slice la lm lc]
  own : wr.ownsRow base 3 1 (.slice la lm lc) lm xs
  sep : Value.ownBlock (.slice aL nL cL) = none ∨ Value.ownBlock (.slice aL nL cL) ≠ Value.ownBlock (.slice la lm lc)

/-- 'w.routes[len(w.routes)-1] = append(w.routes[len(w.routes)-1], i)'. -/
theorem Inv.addI {w1 : World} {u : Value} {gR la lm lc : _} {rs0 xs : List Value} {a' : Option Addr} {cap' : Nat} (h : Inv w0 wr b1 b2 b3 base a n c ords L aL cL rs (some ⟨gR, 0, none⟩) cR)
    (hl : Last wr base aL L.length cL rs0 rs la lm lc xs) (hown : w1.ownsRow base 3 1 (.slice a' (lm + 1) cap') (lm + 1) (xs ++ [u])) (hg : wr.grownBy w1 (Value.ownBlock (.slice la lm lc)))
    (hnew : Value.ownBlock (.slice a' (lm + 1) cap') = Value.ownBlock (.slice la lm lc) ∨ ∀ g, Value.ownBlock (.slice a' (lm + 1) cap') = some g → wr.heap.size ≤ g) :
    Inv w0 (w1.setCell ⟨gR, rs0.length, none⟩ (.slice a' (lm + 1) cap')) b1 b2 b3 base a n c ords L aL cL (rs0 ++ [.slice a' (lm + 1) cap']) (some ⟨gR, 0, none⟩) cR ∧
    Last (w1.setCell ⟨gR, rs0.length, none⟩ (.slice a' (lm + 1) cap')) base aL L.length cL rs0 (rs0 ++ [.slice a' (lm + 1) cap']) a' (lm + 1) cap' (xs ++ [u]) := by
  obtain ⟨k1, k2, k3, k4, k5⟩ := h.keep hg (fun k hk => (hl.own.lt k hk).1)
  have hL : w1.ownsRow base 3 1 (.slice aL L.length cL) L.length (L.map (Value.int .i64)) := h.ownL.kept hg hl.sep
  have hR : w1.ownsRow base 28 1 (.slice (some ⟨gR, 0, none⟩) rs.length cR) rs.length rs := h.ownR.kept hg (owns_apart h.ownR hl.own (by decide))
  have hgR : base ≤ gR := (h.ownR.lt gR rfl).1
  have l1 := h.l1
  have l2 := h.l2
  have l3 := h.l3
  have hlowb := h.lowb
  have hlen : rs.length = rs0.length + 1 := by rw [hl.eq]; simp
  have hlen2 : (rs0 ++ [Value.slice a' (lm + 1) cap']).length = rs.length := by rw [hlen]; simp
  have hset : rs.set rs0.length (.slice a' (lm + 1) cap') = rs0 ++ [.slice a' (lm + 1) cap'] := by
    rw [hl.eq, List.set_append_right _ _ (Nat.le_refl _)]; simp
  have hRs := (hR.stored rs0.length (.slice a' (lm + 1) cap')).1
  rw [hset] at hRs
  have hneL : Value.ownBlock (.slice aL L.length cL) ≠ some gR := by
    rcases owns_apart hL hR (by decide) with e | e
    · rw [e]; simp
    · exact e
  have hneN : Value.ownBlock (.slice a' (lm + 1) cap') ≠ some gR := by
    rcases owns_apart hown hR (by decide) with e | e
    · rw [e]; simp
    · exact e
  refine ⟨⟨?_, ?_, k3.other (by show b3 ≠ gR; omega) _, ownsRow_setCell_other hL hneL _, by rw [hlen2]; exact hRs, h.l1, h.l2, h.l3, h.n12, h.n23, by simpa [World.setCell] using k4, h.low, h.lowb, k5.setCell (by show w0.heap.size ≤ gR; omega) _⟩, rfl, ownsRow_setCell_other hown hneN _, ?_⟩
  · rw [Below.heap_setCell _ _ _ _ (by show b1 ≠ gR; omega)]; exact k1
  · rw [Below.heap_setCell _ _ _ _ (by show b2 ≠ gR; omega), hlen2]; exact k2
  · rcases hnew with e | e
    · rw [e]; exact hl.sep
    · cases hv : Value.ownBlock (.slice aL L.length cL) with
      | none => exact .inl rfl
      | some g =>
        right
        intro e2
        have h1 := e g e2.symm
        have h2 := (h.ownL.lt g hv).2
        omega

theorem Last.alloc {nL : Nat} {rs0 rs xs : List Value} {la : Option Addr} {lm lc : Nat} (h : Last wr base aL nL cL rs0 rs la lm lc xs) (o : Obj) : Last (wr.alloc o) base aL nL cL rs0 rs la lm lc xs := ⟨h.eq, h.own.alloc o, h.sep⟩
theorem Last.drew {nL : Nat} {rs0 rs xs : List Value} {la : Option Addr} {lm lc : Nat} (h : Last wr base aL nL cL rs0 rs la lm lc xs) : Last wr.drew base aL nL cL rs0 rs la lm lc xs := ⟨h.eq, h.own, h.sep⟩
theorem Last.drewN {nL : Nat} {rs0 rs xs : List Value} {la : Option Addr} {lm lc : Nat} (h : Last wr base aL nL cL rs0 rs la lm lc xs) (q : Nat) : Last (wr.drewN q) base aL nL cL rs0 rs la lm lc xs := ⟨h.eq, h.own, h.sep⟩
/-- The cells of the routes that the walk reads and writes. -/
theorem Inv.routes {nL gR : Nat} {rs0 xs : List Value} {la : Option Addr} {lm lc : Nat} (h : Inv w0 wr b1 b2 b3 base a n c ords L aL cL rs (some ⟨gR, 0, none⟩) cR) (hl : Last wr base aL nL cL rs0 rs la lm lc xs) :
    wr.cell? ⟨b2, 1, none⟩ = some (.slice (some ⟨gR, 0, none⟩) (rs0.length + 1) cR) ∧ wr.cell? ⟨gR, rs0.length, none⟩ = some (.slice la lm lc) ∧ wr.frozen? ⟨gR, rs0.length, none⟩ = false := by
  have hlen : rs.length = rs0.length + 1 := by rw [hl.eq]; simp
  refine ⟨?_, ?_, h.ownR.frozenAt _⟩
  · rw [h.cellR, hlen]
  · rw [h.ownR.cellAt rs0.length (by omega), hl.eq]
    simp
/-- .. behind the append to the last of them. -/
theorem Inv.routes' {w1 : World} {nL gR : Nat} {rs0 xs : List Value} {la : Option Addr} {lm lc : Nat} (h : Inv w0 wr b1 b2 b3 base a n c ords L aL cL rs (some ⟨gR, 0, none⟩) cR) (hl : Last wr base aL nL cL rs0 rs la lm lc xs)
    (hg : wr.grownBy w1 (Value.ownBlock (.slice la lm lc))) :
    w1.cell? ⟨b2, 1, none⟩ = some (.slice (some ⟨gR, 0, none⟩) (rs0.length + 1) cR) ∧ w1.cell? ⟨gR, rs0.length, none⟩ = some (.slice la lm lc) ∧ w1.frozen? ⟨gR, rs0.length, none⟩ = false := by
  obtain ⟨r1, r2, r3⟩ := h.routes hl
  have hR : w1.ownsRow base 28 1 (.slice (some ⟨gR, 0, none⟩) rs.length cR) rs.length rs := h.ownR.kept hg (owns_apart h.ownR hl.own (by decide))
  have hlen : rs.length = rs0.length + 1 := by rw [hl.eq]; simp
  have hk := h.keep hg (fun k hk => (hl.own.lt k hk).1)
  refine ⟨by simp [World.cell?, hk.2.1, hlen], ?_, hR.frozenAt _⟩
  rw [hR.cellAt rs0.length (by omega), hl.eq]
  simp
end
end Go.Proofs.Ybulkbvao
