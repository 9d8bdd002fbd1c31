/-
  'copy(dst, src)', dst a row that the call itself made, src a slice of integers that came in.
-/
import Derived.Test.YbulkbvaoElems
import Derived.Laws.CopyOwn
namespace Go.Proofs.Ybulkbvao
open Go.RowKit
theorem wpList_copy_all {P : Program} {w : World} {ops : Array Oper} {rest : List Oper} {o : Oper} {a : Act} {Q : Exit → Act → World → Prop} (hgd : o.guard = none) (d s : Operand) (t : TypeId)
    (ho : o.op = .call { callee := .builtin .copy, args := #[d, s], argTypes := #[t, t] }) (e : TypeId) (k : IntKind) (hu : P.underlying t = some (.slice e)) (hsz : (P.info? e).map (·.size) = some 1)
    (g n c : Nat) (sp : Option Addr) (hd : a.eval d = .slice (some ⟨g, 0, none⟩) n n) (hs : a.eval s = .slice sp n c)
    (ys zs : List Int) (hR : Row w g e k ys) (hy : ys.length = n) (hE : Elems k w sp n zs) (B : Nat) (w0 : World) (hb : Below B w0 w) (hBg : B ≤ g)
    (h : ∀ w', Row w' g e k zs → Below B w0 w' → wpList P ops Q rest (a.put o.dst (goInt (zs.map (Value.int k)).length)) w') :
    wpList P ops Q (o :: rest) a w := by
  obtain ⟨hz, hE⟩ := hE
  refine wpList_copy_splice hgd d s t t ho e hu hsz _ _ n n n c hd hs g 0 (ys.map (Value.int k)) e hR (zs.map (Value.int k)) (by simp [hz]) ?_ (by simp [hz, hy]) (ints_oneCell k zs) B w0 hb hBg ?_
  · intro h0
    obtain ⟨b, off, rfl, _, hc⟩ := hE (by simp at h0; omega)
    refine ⟨rfl, _, rfl, fun j v hj => ?_⟩
    have hj' : j < zs.length := by
      have := (List.getElem?_eq_some_iff.1 hj).1
      simpa using this
    rw [Addr.add_lit, hc j (by omega)]
    simp [List.getElem?_eq_getElem hj'] at hj ⊢
    exact hj
  · intro w' hw' hb'
    refine h w' ?_ hb'
    have := hw'.out
    unfold Row
    rw [this]
    simp [splice, hz, hy]
end Go.Proofs.Ybulkbvao
