/-
  A law on a region that draws its order, beside the guide's own on a condition S that is held through a region: HERE ONE OPERATION 'st' (the store that closes the statement) MAY BREAK S. An operation for which 'st' waits may still be taken first where it yields its value in every world that meets S: while it has not come up, 'st' cannot have.
  And 'append' onto a slice that the call owns, as one step of such a region, with the word that the new row is the old one or lies in new memory.
-/
import Derived.OrdersHeld
import Derived.StillTail
import Derived.Deep.RegionLaw
import Derived.Test.YbulkbvaoClone
namespace Go.Proofs.Ybulkbvao
open Go.RowKit

section
variable {P : Program} {ops : Array Oper} {Q : Exit → Act → World → Prop} {md : Region.Mode} {S : World → Prop} {st : Nat}

/-- Whatever order is picked from here on; behind every operation but 'st' the condition S holds. -/
def HeldBut (P : Program) (md : Region.Mode) (ops : Array Oper) (Q : Exit → Act → World → Prop) (S : World → Prop) (st : Nat) : Nat → Array Bool → Act → World → Prop
  | 0, l, a, w => Region.ready md ops l = [] ∧ Q .normal a w
  | f + 1, l, a, w => (Region.ready md ops l = [] → Q .normal a w) ∧ ∀ i ∈ Region.ready md ops l, wpOp P ops Q i (fun a' w' => (i ≠ st → S w') ∧ HeldBut P md ops Q S st f (l.setIfInBounds i true) a' w') a w

theorem HeldBut.any : ∀ (f : Nat) (l : Array Bool) (a : Act) (w : World), HeldBut P md ops Q S st f l a w → wpAny P md ops Q f l a w
  | 0, _, _, _, h => h
  | f + 1, _, _, _, h => ⟨h.1, fun i hi => wpOp_mono (fun a' w' k => HeldBut.any f _ a' w' k.2) (h.2 i hi)⟩

theorem HeldBut.first {i : Nat} {oi : Oper} {v : Value} (hi : ops[i]? = some oi) (hsel : ∀ (j : Nat) (o : Oper) cs b, ops[j]? = some o → o.op ≠ .select cs b)
    (hQ : ∀ c a w, Q (.panic c) (a.put oi.dst v) w → Q (.panic c) a w) (hst : Region.waitsFor md ops st i = true) :
    ∀ (f : Nat) (l : Array Bool) (a : Act) (w : World),
      (∀ j oj, ops[j]? = some oj → j ≠ i → l.getD j true = false → (∀ e ∈ oj.after, Region.binds md e = true → e.on ≠ i) → oi.apart ops oj = true) →
      i ∈ Region.ready md ops l → YieldsIf P ops S oi v a → S w →
      HeldBut P md ops Q S st f (l.setIfInBounds i true) (a.put oi.dst v) w → HeldBut P md ops Q S st (f + 1) l a w := by
  intro f
  induction f with
  | zero =>
    intro l a w _ hr hy hS H
    refine ⟨fun h => absurd hr (by rw [h]; simp), fun j hj => ?_⟩
    rcases Nat.decEq j i with hji | hji
    · exact absurd (ready_mono hj hji) (by rw [H.1]; simp)
    · subst hji
      exact hy.wpOp hi hS ⟨fun _ => hS, H⟩
  | succ f ih =>
    intro l a w hfree hr hy hS H
    refine ⟨fun h => absurd hr (by rw [h]; simp), fun j hj => ?_⟩
    rcases Nat.decEq j i with hji | hji
    · obtain ⟨hjun, oj, hoj, hall⟩ := mem_ready.1 hj
      have hun := (mem_ready.1 hr).1
      have hnot : ∀ e ∈ oj.after, Region.binds md e = true → e.on ≠ i := by
        intro e he hb heq
        have h1 := hall e he hb
        rw [heq] at h1
        rcases Nat.lt_or_ge i l.size with h' | h'
        · simp [h'] at hun h1; rw [hun] at h1; cases h1
        · simp [Array.getElem?_eq_none h'] at h1
      have hjst : j ≠ st := by
        rintro rfl
        obtain ⟨o, ho, e, he, hb, hon⟩ := Region.waitsFor_spec hst
        obtain rfl : oj = o := Option.some.inj (hoj.symm.trans ho)
        exact hnot e he hb hon
      have h2 := wpOp_putIf hoj (hfree j oj hoj hji hjun hnot) (fun cs b => hsel i oi cs b hi) (fun cs b => hsel j oj cs b hoj) hQ hy (H.2 j (ready_mono hj hji))
      refine wpOp_mono (fun a' w' h3 => ⟨h3.2.1, ih (l.setIfInBounds j true) a' w' ?_ (ready_mono hr (Ne.symm hji)) h3.1 (h3.2.1 hjst) ?_⟩) h2
      · intro k ok hk hki hunk hno
        refine hfree k ok hk hki ?_ hno
        by_cases hjk : j = k
        · subst hjk; exact hjun
        · rw [getD_set_ne true hjk] at hunk; exact hunk
      · rw [Array.setIfInBounds_comm _ _ hji]
        exact h3.2.2
    · subst hji
      exact hy.wpOp hi hS ⟨fun _ => hS, H⟩

/-- Take number i first. -/
theorem HeldBut.take (i : Nat) {oi : Oper} (v : Value) {f : Nat} {l : Array Bool} {a : Act} {w : World} (hS : S w) (hi : ops[i]? = some oi)
    (hs : Region.noSelect ops = true) (hf : Region.free md ops l i = true) (hr : (Region.ready md ops l).contains i = true) (hst : Region.waitsFor md ops st i = true)
    (hQ : ∀ c a w, Q (.panic c) (a.put oi.dst v) w → Q (.panic c) a w) (hw : Region.wanted oi (yielded ops a.tmps) = true) (hy : ∀ w, S w → (execOp a.eval oi).run P w = .ok (.value v) w)
    (h : HeldBut P md ops Q S st f (l.setIfInBounds i true) (a.put oi.dst v) w) : HeldBut P md ops Q S st (f + 1) l a w :=
  HeldBut.first hi (Region.noSelect_spec hs) hQ hst f l a w (Region.free_spec hi hf) (by simpa using hr) (.inl ⟨hw, hy⟩) hS h

/-- Number i alone may come up: carry it out, and show S anew (where it is not 'st'). -/
theorem HeldBut.step (i : Nat) {oi : Oper} {f : Nat} {l : Array Bool} {a : Act} {w : World} (hi : ops[i]? = some oi) (hr : Region.ready md ops l = [i])
    (h : ∀ K : Act → World → Prop, (∀ a' w', (i ≠ st → S w') → HeldBut P md ops Q S st f (l.setIfInBounds i true) a' w' → K a' w') → if Region.wanted oi (yielded ops a.tmps) = true then Oper.wp P oi a w K Q else K (a.put oi.dst undef) w) :
    HeldBut P md ops Q S st (f + 1) l a w := by
  refine ⟨fun h0 => absurd (hr.symm.trans h0) (by simp), fun j hj => ?_⟩
  rw [hr] at hj
  obtain rfl : j = i := by simpa using hj
  exact wpOp_step hi (fun K' hK => h K' (fun a' w' h1 h2 => hK a' w' ⟨h1, h2⟩))

theorem HeldBut.done {l : Array Bool} {a : Act} {w : World} (hr : Region.ready md ops l = []) (h : Q .normal a w) : ∀ f, HeldBut P md ops Q S st f l a w
  | 0 => ⟨hr, h⟩
  | _ + 1 => ⟨fun _ => h, by rw [hr]; simp⟩

theorem HeldBut.begin (st : Nat) (S : World → Prop) {id : Nat} {a : Act} {w : World} (hm : P.follows .mixedOrders = true)
    (h : HeldBut P .any ops Q S st ops.size (Array.replicate ops.size false) a w.drew) : (Code.region id ops true).wp P Q a w :=
  wp_region_any hm (HeldBut.any _ _ _ _ h)
end

/-! ### append onto what the call owns -/
theorem owns_mono {w : World} {base base' e : Nat} {v : Value} {n : Nat} {xs : List Value} (h : w.ownsRow base e 1 v n xs) (hb : base' ≤ base) : w.ownsRow base' e 1 v n xs := by
  refine ⟨h.1, ?_⟩
  rcases h.2 with h | ⟨g, cap, cur, h1, h2, r⟩
  · exact .inl h
  · exact .inr ⟨g, cap, cur, h1, by omega, r⟩
theorem grown_weaken {w w' : World} (h : w.grownBy w' none) (row : Option Nat) : w.grownBy w' row := ⟨h.os, h.tape, h.output, h.size, fun k hk _ => h.block k hk (by simp)⟩

/-- The run: the new value owns old and new; it lies in the old row, or in new memory. -/
theorem run_append_two {P : Program} (w : World) (base : Nat) (t ty e : TypeId) (i : TypeInfo) (z : Value) (bytes : Nat) (ht : P.underlying t = some (.slice e)) (hi : P.info? e = some i) (hz : i.zero = some z)
    (hsize : i.size = 1) (hby : i.bytes = bytes) (hzs : z.cells.size = 1) (v : Value) (n : Nat) (xs : List Value) (hown : w.ownsRow base e 1 v n xs)
    (ad : Addr) (u : Value) (hu : w.cell? ad = some u) (h1 : u.oneCell' = true) (h63 : n + 1 ≤ maxLen) (hbytes : (n + 1) * bytes ≤ 140737488355328) (hbase : base ≤ w.heap.size) :
    ∃ a' cap' w', (Builtin.append_ #[t, t] ty #[v, .slice (some ad) 1 1]).run P w = .ok (.slice a' (n + 1) cap') w' ∧ w'.ownsRow base e 1 (.slice a' (n + 1) cap') (n + 1) (xs ++ [u]) ∧ w.grownBy w' v.ownBlock ∧
      (Value.ownBlock (.slice a' (n + 1) cap') = v.ownBlock ∨ ∀ g, Value.ownBlock (.slice a' (n + 1) cap') = some g → w.heap.size ≤ g) := by
  have hc : ∀ j x, ([u] : List Value)[j]? = some x → w.cell? (ad.add j) = some x := by
    intro j x hj
    match j, hj with
    | 0, hj =>
      simp at hj
      subst hj
      have : ad.add 0 = ad := by unfold Addr.add; split <;> simp_all
      rw [this]; exact hu
  have h1c : ∀ x ∈ ([u] : List Value), x.oneCell' = true := by simpa using h1
  rcases hown.2 with ⟨rfl, rfl⟩ | ⟨g, cap, cur, rfl, hb, hg, hnc, hcm, hcs, htk⟩
  · obtain rfl : xs = [] := List.eq_nil_of_length_eq_zero (by simpa using hown.1)
    obtain ⟨v', w', hrun, r1, r2, r3⟩ := run_append_own (P := P) w w.heap.size t ty e i z 1 bytes ht hi hz hsize hby hzs (by decide) (.slice none 0 0) 0 [] (World.ownsRow_nil w _ e 1) ad 1 1 [u] rfl hc h1c h63 hbytes (Nat.le_refl _)
    rcases r1.2 with ⟨_, h0⟩ | ⟨g', cap', cur', rfl, hb', _⟩
    · omega
    · exact ⟨_, _, w', hrun, owns_mono r1 hbase, r2, .inr (fun k hk => by simp [Value.ownBlock] at hk; omega)⟩
  · by_cases hroom : n + 1 ≤ cap
    · obtain ⟨w', hrun, r1, r2⟩ := run_append_fits (P := P) w base t ty e i 1 ht hi hsize g n cap xs hown ad 1 1 [u] rfl hc h1c hroom
      exact ⟨_, _, w', hrun, r1, r2, .inl rfl⟩
    · obtain ⟨v', w', hrun, r1, r2⟩ := run_append_arg_grows (P := P) w t ty e i z 1 bytes ht hi hz hsize hby hzs (by decide) ⟨g, 0, none⟩ n cap xs (by simpa using hown.1) (hown.cells rfl) ad 1 1 [u] rfl hc (by omega) h63 hbytes
      rcases r1.2 with ⟨_, h0⟩ | ⟨g', cap', cur', rfl, hb', _⟩
      · omega
      · exact ⟨_, _, w', hrun, owns_mono r1 hbase, grown_weaken r2 _, .inr (fun k hk => by simp [Value.ownBlock] at hk; omega)⟩

theorem step_append_two {P : Program} {ops : Array Oper} {o : Oper} {a : Act} {w : World} {K : Act → World → Prop} {Q : Exit → Act → World → Prop} {E : Prop}
    (hg : o.guard = none) (s x : Operand) (t : TypeId) (hop : o.op = Op.call { callee := Callee.builtin Builtin.append, args := #[s, x], argTypes := #[t, t] })
    (base : Nat) (e : TypeId) (i : TypeInfo) (z : Value) (bytes : Nat) (h1 : P.underlying t = some (.slice e)) (h2 : P.info? e = some i) (h3 : i.zero = some z) (h4 : i.size = 1) (h5 : i.bytes = bytes) (h6 : z.cells.size = 1)
    (v : Value) (n : Nat) (xs : List Value) (hs : a.eval s = v) (hown : w.ownsRow base e 1 v n xs) (ad : Addr) (u : Value) (hx : a.eval x = .slice (some ad) 1 1) (hu : w.cell? ad = some u) (h1c : u.oneCell' = true)
    (b1 : n + 1 ≤ maxLen) (b2 : (n + 1) * bytes ≤ 140737488355328) (b3 : base ≤ w.heap.size)
    (hK : ∀ a' cap' w', w'.ownsRow base e 1 (.slice a' (n + 1) cap') (n + 1) (xs ++ [u]) → w.grownBy w' v.ownBlock → (Value.ownBlock (.slice a' (n + 1) cap') = v.ownBlock ∨ ∀ g, Value.ownBlock (.slice a' (n + 1) cap') = some g → w.heap.size ≤ g) → K (a.put o.dst (.slice a' (n + 1) cap')) w') :
    if Region.wanted o (yielded ops a.tmps) = true then Oper.wp P o a w K Q else E := by
  have hw : Region.wanted o (yielded ops a.tmps) = true := by simp [Region.wanted, hg]
  rw [if_pos hw]
  obtain ⟨a', cap', w', hrun, r1, r2, r3⟩ := run_append_two (P := P) w base t o.type e i z bytes h1 h2 h3 h4 h5 h6 v n xs hown ad u hu h1c b1 b2 b3
  unfold Oper.wp
  simp [execOp, hop, resolve, invoke, builtin, hs, hx, hrun, Result.andThen]
  exact hK a' cap' w' r1 r2 r3

theorem wpList_append_two {P : Program} (w : World) {ops : Array Oper} {rest : List Oper} {o : Oper} {a : Act} {Q : Exit → Act → World → Prop}
    (hg : o.guard = none) (s x : Operand) (t : TypeId) (hop : o.op = Op.call { callee := Callee.builtin Builtin.append, args := #[s, x], argTypes := #[t, t] })
    (base : Nat) (e : TypeId) (i : TypeInfo) (z : Value) (bytes : Nat) (h1 : P.underlying t = some (.slice e)) (h2 : P.info? e = some i) (h3 : i.zero = some z) (h4 : i.size = 1) (h5 : i.bytes = bytes) (h6 : z.cells.size = 1)
    (v : Value) (n : Nat) (xs : List Value) (hs : a.eval s = v) (hown : w.ownsRow base e 1 v n xs) (ad : Addr) (u : Value) (hx : a.eval x = .slice (some ad) 1 1) (hu : w.cell? ad = some u) (h1c : u.oneCell' = true)
    (b1 : n + 1 ≤ maxLen) (b2 : (n + 1) * bytes ≤ 140737488355328) (b3 : base ≤ w.heap.size)
    (hK : ∀ a' cap' w', w'.ownsRow base e 1 (.slice a' (n + 1) cap') (n + 1) (xs ++ [u]) → w.grownBy w' v.ownBlock → wpList P ops Q rest (a.put o.dst (.slice a' (n + 1) cap')) w') :
    wpList P ops Q (o :: rest) a w := by
  refine wpList_plain hg fun K hK' => ?_
  obtain ⟨a', cap', w', hrun, r1, r2, _⟩ := run_append_two (P := P) w base t o.type e i z bytes h1 h2 h3 h4 h5 h6 v n xs hown ad u hu h1c b1 b2 b3
  unfold Oper.wp
  simp [execOp, hop, resolve, invoke, builtin, hs, hx, hrun, Result.andThen]
  exact hK' _ _ (hK a' cap' w' r1 r2)
theorem owns_some {w : World} {base e : Nat} {a : Option Addr} {n cap : Nat} {xs : List Value} (h : w.ownsRow base e 1 (.slice a n cap) n xs) (h0 : 0 < n) : ∃ g, a = some ⟨g, 0, none⟩ := by
  rcases h.2 with ⟨_, h1⟩ | ⟨g, cap', cur, h1, _⟩
  · omega
  · simp only [Value.slice.injEq] at h1
    exact ⟨g, h1.1⟩
theorem cell_new (w : World) (u : Value) (e : TypeId) : (w.alloc (.cells #[u] e)).cell? ⟨w.heap.size, 0, none⟩ = some u := by simp
end Go.Proofs.Ybulkbvao
