/-
  'newWaitlist' by a contract.
-/
import Derived.Test.YbulkbvaoOrder
import Derived.Test.YbulkbvaoInv
namespace Go.Proofs.Ybulkbvao
open Go.RowKit
set_option linter.unusedSimpArgs false
theorem Yba.info28' : (Yba.prog.info? 28).map (fun i => (i.zero, i.size, i.bytes)) = some (some (.slice none 0 0), 1, 24) := by kernel_rfl

theorem adds_nil {L : List Int} {v : Int} (h : L.length = 0) : adds L v = true := decide_eq_true (Or.inl h)
theorem adds_ne {L : List Int} {v : Int} {p : Nat} (h : L.length = p + 1) (hy : L[p]?.getD 0 ≠ v) : adds L v = true := decide_eq_true (Or.inr (by rw [h]; simpa using hy))
theorem adds_no {L : List Int} {v : Int} {p : Nat} (h : L.length = p + 1) (hy : L[p]?.getD 0 = v) : adds L v = false := decide_eq_false (by rw [h]; simp [hy])

set_option maxHeartbeats 4000000 in
set_option maxRecDepth 100000 in
theorem waitlist_any (ba off n c : Nat) (ms : List Int) (w : World) (hn : n + 1 ≤ 1024) (hE : Elems .i64 w (some ⟨ba, off, none⟩) (n + 1) ms) :
    Calls Yba.prog 13 #[.slice (some ⟨ba, off, none⟩) (n + 1) c] w fun e w' => ∃ bw aL cL L, e = .returned (.pointer (some ⟨bw, 0, none⟩)) ∧ w'.cell? ⟨bw, 0, none⟩ = some (.slice aL L.length cL) ∧
      Elems .i64 w' aL L.length L ∧ (∀ i j : Nat, i ≤ j → j < L.length → L[i]?.getD 0 ≤ L[j]?.getD 0) ∧ (∀ v, v ∈ L ↔ v ∈ ms) ∧ L.length ≤ 1024 ∧ Below w.heap.size w w' := by
  obtain ⟨hms, hE⟩ := hE
  obtain ⟨b', o', e', hba, hc⟩ := hE (by omega)
  simp only [Option.some.injEq, Addr.mk.injEq, and_true] at e'
  obtain ⟨rfl, rfl⟩ := e'
  have HMS : Hid (ms.length = n + 1) := hms
  have HC : Hid (∀ i, i < n + 1 → w.cell? ⟨ba, off + i, none⟩ = some (.int .i64 (ms[i]?.getD 0))) := hc
  clear hE hms hc
  obtain ⟨N, hN⟩ : ∃ N, N = n + 1 := ⟨_, rfl⟩
  rw [← hN] at hn
  have HN : Hid (N = n + 1) := hN
  rw [← hN]
  clear hN
  go_enter Yba.func13, Yba.ntmps13
  go_wp2_with (at_make; refine wpList_make_row _ rfl _ _ 28 rfl 3 .i64 8 Yba.underlying28 Yba.info3 .i64 .i64 _ _ N rfl rfl rfl rfl (by omega) (by unfold maxLen; omega) ?_)
  intro w1 hR1 hB1 hS1
  have hbox0 : ((w.alloc (Obj.cells #[Value.slice (some ⟨ba, off, none⟩) N c] 28)).alloc (Obj.cells #[Value.slice none 0 0, Value.slice none 0 0] 34)).heap[w.heap.size]? = some (Obj.cells #[Value.slice (some ⟨ba, off, none⟩) N c] 28 (0, 0)) := heap_alloc2_old _ _ _
  have hst0 : ((w.alloc (Obj.cells #[Value.slice (some ⟨ba, off, none⟩) N c] 28)).alloc (Obj.cells #[Value.slice none 0 0, Value.slice none 0 0] 34)).heap[w.heap.size + 1]? = some (Obj.cells #[Value.slice none 0 0, Value.slice none 0 0] 34 (0, 0)) := heap_alloc2_new _ _ _
  have hbel0 : Below w.heap.size w ((w.alloc (Obj.cells #[Value.slice (some ⟨ba, off, none⟩) N c] 28)).alloc (Obj.cells #[Value.slice none 0 0, Value.slice none 0 0] 34)) := ((Below.refl _ _).alloc (Nat.le_refl _) _).alloc (by simp) _
  have hsz0 : ((w.alloc (Obj.cells #[Value.slice (some ⟨ba, off, none⟩) N c] 28)).alloc (Obj.cells #[Value.slice none 0 0, Value.slice none 0 0] 34)).heap.size = w.heap.size + 2 := by simp
  generalize ((w.alloc (Obj.cells #[Value.slice (some ⟨ba, off, none⟩) N c] 28)).alloc (Obj.cells #[Value.slice none 0 0, Value.slice none 0 0] 34)) = W2 at hbox0 hst0 hbel0 hsz0 hR1 hB1 hS1 ⊢
  obtain ⟨b3, hb3⟩ : ∃ b3, b3 = w.heap.size + 1 + 1 := ⟨_, rfl⟩
  rw [← hb3] at hR1 ⊢
  have hbox : w1.heap[w.heap.size]? = some (Obj.cells #[Value.slice (some ⟨ba, off, none⟩) N c] 28 (0, 0)) := by rw [hB1.block _ (by omega)]; exact hbox0
  have hst : w1.heap[w.heap.size + 1]? = some (Obj.cells #[Value.slice none 0 0, Value.slice none 0 0] 34 (0, 0)) := by rw [hB1.block _ (by omega)]; exact hst0
  have hbel : Below w.heap.size w w1 := hbel0.trans (hB1.mono (by omega))
  have hb3' : w.heap.size + 1 < b3 := by omega
  have HB : Hid (w1.heap[w.heap.size]? = some (Obj.cells #[Value.slice (some ⟨ba, off, none⟩) N c] 28 (0, 0)) ∧ w1.heap[w.heap.size + 1]? = some (Obj.cells #[Value.slice none 0 0, Value.slice none 0 0] 34 (0, 0))) := ⟨hbox, hst⟩
  clear hbox0 hst0 hbel0 hsz0 hB1 hS1 hb3 hbox hst W2
  go_wp2
  go_loopw [16] (fun i wr => ∃ k : Nat, k ≤ N ∧ i = .int .i64 k ∧ Row wr b3 3 .i64 (laidN (ids N) N k) ∧ Hid (wr.heap[w.heap.size]? = some (Obj.cells #[Value.slice (some ⟨ba, off, none⟩) N c] 28 (0, 0)) ∧ wr.heap[w.heap.size + 1]? = some (Obj.cells #[Value.slice none 0 0, Value.slice none 0 0] 34 (0, 0))) ∧ Below w.heap.size w wr) (fun i _ => N - (intOf i).toNat)
  case atStart => exact ⟨0, Nat.zero_le _, rfl, hR1.same (by simp [laidN]), HB, hbel⟩
  case round =>
    clear hR1 HB hbel w1
    obtain ⟨k, hk, rfl, hRr, HB, hBr⟩ := hrel
    by_cases hlt : k < N
    · have h2 := hRr.cell' k (by rw [laidN_length _ _ _ (ids_length N) hk]; exact hlt)
      have h3 := hRr.free k
      have hrow := hRr.store k (k : Int)
      have hst := laidN_step (ids N) N k (ids_length N) hlt
      rw [ids_at N k hlt] at hst
      rw [hst] at hrow
      have hbl := hBr.setCell (p := ⟨b3, k, none⟩) (by show w.heap.size ≤ b3; omega) (.int .i64 (k : Int))
      have HB2 : Hid ((wr.setCell ⟨b3, k, none⟩ (.int .i64 (k : Int))).heap[w.heap.size]? = some (Obj.cells #[Value.slice (some ⟨ba, off, none⟩) N c] 28 (0, 0)) ∧ (wr.setCell ⟨b3, k, none⟩ (.int .i64 (k : Int))).heap[w.heap.size + 1]? = some (Obj.cells #[Value.slice none 0 0, Value.slice none 0 0] 34 (0, 0))) :=
        ⟨by rw [Below.heap_setCell _ _ _ _ (by show w.heap.size ≠ b3; omega)]; exact HB.out.1, by rw [Below.heap_setCell _ _ _ _ (by show w.heap.size + 1 ≠ b3; omega)]; exact HB.out.2⟩
      generalize (laidN (ids N) N k)[k]?.getD 0 = y at h2
      clear hRr hBr HB hst
      go_wp2
      go_roundw
      case rel => exact ⟨k + 1, by omega, by go_num, hrow, HB2, hbl⟩
      case measure => simp [intOf]; omega
    · obtain rfl : k = N := by omega
      rw [laidN_full _ _ (ids_length k)] at hRr
      clear hlt hk
      have hbx : wr.cell? ⟨w.heap.size, 0, none⟩ = some (.slice (some ⟨ba, off, none⟩) k c) := by simp [World.cell?, HB.out.1]
      have hcw : ∀ i, i < n + 1 → wr.cell? ⟨ba, off + i, none⟩ = some (.int .i64 (ms[i]?.getD 0)) := fun i hi => (hBr.cell (p := ⟨ba, off + i, none⟩) hba).trans (HC.out i hi)
      have hsort : Calls Yba.prog 17 #[.slice (some ⟨b3, 0, none⟩) k k, .func (.func 18) #[] #[.pointer (some ⟨w.heap.size, 0, none⟩)]] wr fun e w' =>
          e = .returned (.tuple #[]) ∧ ∃ od vs : List Int, od.length = k ∧ vs.length = k ∧ (∀ i j : Nat, i ≤ j → j < vs.length → vs[i]?.getD 0 ≤ vs[j]?.getD 0) ∧ (∀ v, v ∈ vs ↔ v ∈ ms) ∧ (∀ j : Nat, j < k → ∃ x : Nat, x < k ∧ od[j]?.getD 0 = (x : Int) ∧ vs[j]?.getD 0 = ms[x]?.getD 0) ∧ Row w' b3 3 .i64 od ∧
            Hid (w'.heap[w.heap.size]? = some (Obj.cells #[Value.slice (some ⟨ba, off, none⟩) k c] 28 (0, 0)) ∧ w'.heap[w.heap.size + 1]? = some (Obj.cells #[Value.slice none 0 0, Value.slice none 0 0] 34 (0, 0))) ∧ Below w.heap.size w w' := by
        have hk := HN.out
        subst hk
        refine (sort_any w.heap.size ba off n c b3 ms (allF n) wr hn (allF_size n) hbx hcw (by omega) (by omega) hRr.lt (holds_all hRr)).mono ?_
        rintro e w' ⟨he, d, q, os, hp, hs, rfl⟩
        have hds : d.size = n + 1 := hp.1.trans (allF_size n)
        have hlt := hRr.lt
        refine ⟨he, nums n d, vals ms n d, by rw [nums_length, hds], by rw [vals_length, hds], vals_sorted ms n d (by rw [hp.1]; exact hs), vals_mem ms n d HMS.out hp, fun j hj => ⟨(d[j]!).val, (d[j]!).isLt, nums_at n d j (by omega), vals_at ms n d j (by omega)⟩, row_sorted hRr hds, ⟨?_, ?_⟩, hBr.trans (sortWorld_below _ _ _ _ _ _ _ _ (by omega) hlt)⟩
        · rw [sortWorld_block _ _ _ _ _ _ _ _ (by omega) (by omega)]; exact HB.out.1
        · rw [sortWorld_block _ _ _ _ _ _ _ _ (by omega) (by omega)]; exact HB.out.2
      clear hbx hcw
      go_wp2_with (go_at_call 17; refine hsort.mono ?_; rintro e W ⟨rfl, od, vs, hol, hvl, hvs, hvm, hov, hRo, HBo, hBo⟩)
      have HOL : Hid (od.length = k) := hol
      have HVL : Hid (vs.length = k) := hvl
      have HVS : Hid (∀ i j : Nat, i ≤ j → j < vs.length → vs[i]?.getD 0 ≤ vs[j]?.getD 0) := hvs
      have HVM : Hid (∀ v, v ∈ vs ↔ v ∈ ms) := hvm
      have HOV : Hid (∀ j : Nat, j < k → ∃ x : Nat, x < k ∧ od[j]?.getD 0 = (x : Int) ∧ vs[j]?.getD 0 = ms[x]?.getD 0) := hov
      have hbz := hBo.size
      have hb3W := hRo.lt
      obtain ⟨base, hbase⟩ : ∃ base, base = W.heap.size := ⟨_, rfl⟩
      have hI0 : Inv w W w.heap.size (w.heap.size + 1) b3 base (some ⟨ba, off, none⟩) k c od [] none 0 [] none 0 :=
        ⟨HBo.out.1, HBo.out.2, hRo, World.ownsRow_nil _ _ _ _, World.ownsRow_nil _ _ _ _, by omega, by omega, by omega, by omega, by omega, by omega, by omega, by omega, hBo⟩
      have hlb : w.heap.size + 1 < base := by omega
      have hl3 : b3 < base := by omega
      have HLB : Hid (w.heap.size + 1 < base ∧ b3 < base) := ⟨hlb, hl3⟩
      obtain ⟨i3, hi3, hz0, hz1, hz2⟩ := info_parts Yba.info3
      obtain ⟨i28, hi28, hy0, hy1, hy2⟩ := info_parts Yba.info28'
      clear hsort hRr HB hBr hol hvl hvs hvm hov hRo HBo hBo hbase hlb hl3 hb3W hbz
      go_loopw [29] (fun i wx => ∃ j : Nat, j ≤ k ∧ i = .int .i64 j ∧ ∃ aL cL rs aR cR, Inv w wx w.heap.size (w.heap.size + 1) b3 base (some ⟨ba, off, none⟩) k c od (dd vs j) aL cL rs aR cR ∧ rs.length = (dd vs j).length ∧
          (rs ≠ [] → ∃ rs0 la lm lc xs, Last wx base aL (dd vs j).length cL rs0 rs la lm lc xs ∧ lm ≤ j)) (fun i _ => k - (intOf i).toNat)
      case atStart => exact ⟨0, Nat.zero_le _, rfl, none, 0, [], none, 0, hI0, rfl, fun h => absurd rfl h⟩
      case round =>
        clear hI0 W
        obtain ⟨j, hj, rfl, aL, cL, rs, aR, cR, hI, hrl, hLast⟩ := hrel
        by_cases hjk : j < k
        · obtain ⟨x, hx, hox, hvx⟩ := HOV.out j hjk
          have hco : wr.cell? ⟨b3, j, none⟩ = some (.int .i64 (x : Int)) := by rw [hI.ord.cell' j (by have := HOL.out; omega), hox]
          have hcm : wr.cell? ⟨ba, off + x, none⟩ = some (.int .i64 (vs[j]?.getD 0)) := by rw [hvx]; exact (hI.bel.cell (p := ⟨ba, off + x, none⟩) hba).trans (HC.out x (by have := HN.out; omega))
          have hcb := hI.cellB
          have hcl := hI.cellL
          have hcr := hI.cellR
          have hixj : (j : Int) < (k : Int) := by omega
          have hixx : (x : Int) < (k : Int) := by omega
          have hLl := dd_length_le vs j
          have HDD : Hid (dd vs (j + 1) = if adds (dd vs j) (vs[j]?.getD 0) = true then dd vs j ++ [vs[j]?.getD 0] else dd vs j) := rfl
          generalize vs[j]?.getD 0 = v at hcm HDD
          generalize hLL : dd vs j = L at hI hrl hLast hcl hLl HDD
          have HLL : Hid (dd vs j = L) := hLL
          have HI : Hid (Inv w wr w.heap.size (w.heap.size + 1) b3 base (some ⟨ba, off, none⟩) k c od L aL cL rs aR cR) := hI
          have HRL : Hid (rs.length = L.length) := hrl
          have HLAST : Hid (rs ≠ [] → ∃ rs0 la lm lc xs, Last wr base aL L.length cL rs0 rs la lm lc xs ∧ lm ≤ j) := hLast
          clear hox hvx hLL hI hrl hLast
          by_cases h0 : L.length = 0
          · have hg : decide ((-1 : Int) < 0) = true := rfl
            have HD : Hid (dd vs (j + 1) = L ++ [v]) := by
              have := HDD.out
              rw [if_pos (adds_nil h0)] at this
              exact this
            clear HDD HLAST
            go_wp2
            go_quiet (fail)
            have HIq := HI.out.drewN nq
            have hcm2 : (wr.drewN nq).cell? ⟨ba, off + x, none⟩ = some (.int .i64 v) := hcm
            generalize wr.drewN nq = W2 at HIq hcm2 ⊢
            clear hco hcb hcl hcr hcm hg
            go_wp2
            clear h0
            refine HeldBut.begin 13 (fun w' => w'.cell? ⟨w.heap.size + 1, 0, none⟩ = some (.slice aL L.length cL) ∧ w'.cell? ⟨w.heap.size, 0, none⟩ = some (.slice (some ⟨ba, off, none⟩) k c) ∧ w'.cell? ⟨ba, off + x, none⟩ = some (.int .i64 v)) (by kernel_rfl) ?_
            have HI3 : Hid (Inv w W2.drew w.heap.size (w.heap.size + 1) b3 base (some ⟨ba, off, none⟩) k c od L aL cL rs aR cR) := HIq.drew
            have hcm3 : W2.drew.cell? ⟨ba, off + x, none⟩ = some (.int .i64 v) := hcm2
            clear HIq hcm2
            generalize W2.drew = w3 at HI3 hcm3 ⊢
            have hS : w3.cell? ⟨w.heap.size + 1, 0, none⟩ = some (.slice aL L.length cL) ∧ w3.cell? ⟨w.heap.size, 0, none⟩ = some (.slice (some ⟨ba, off, none⟩) k c) ∧ w3.cell? ⟨ba, off + x, none⟩ = some (.int .i64 v) := ⟨HI3.out.cellL, HI3.out.cellB, hcm3⟩
            refine HeldBut.take 0 (.pointer (some ⟨w.heap.size + 1, 0, none⟩)) hS rfl (by kernel_rfl) (by kernel_rfl) (by kernel_rfl) (by kernel_rfl) (fun _ _ _ h => h) rfl ?_ ?_
            · intro w' hSw
              obtain ⟨s1, s2, s3⟩ := hSw
              go_simp
            simp only [Act.put, List.setIfInBounds_toArray, List.set_cons_zero, List.set_cons_succ]
            refine HeldBut.take 1 (.pointer (some ⟨w.heap.size + 1, 0, none⟩)) hS rfl (by kernel_rfl) (by kernel_rfl) (by kernel_rfl) (by kernel_rfl) (fun _ _ _ h => h) rfl ?_ ?_
            · intro w' hSw
              obtain ⟨s1, s2, s3⟩ := hSw
              go_simp
            simp only [Act.put, List.setIfInBounds_toArray, List.set_cons_zero, List.set_cons_succ]
            refine HeldBut.take 2 (.pointer (some ⟨w.heap.size + 1, 0, none⟩)) hS rfl (by kernel_rfl) (by kernel_rfl) (by kernel_rfl) (by kernel_rfl) (fun _ _ _ h => h) rfl ?_ ?_
            · intro w' hSw
              obtain ⟨s1, s2, s3⟩ := hSw
              go_simp
            simp only [Act.put, List.setIfInBounds_toArray, List.set_cons_zero, List.set_cons_succ]
            refine HeldBut.take 3 (.pointer (some ⟨w.heap.size + 1, 0, none⟩)) hS rfl (by kernel_rfl) (by kernel_rfl) (by kernel_rfl) (by kernel_rfl) (fun _ _ _ h => h) rfl ?_ ?_
            · intro w' hSw
              obtain ⟨s1, s2, s3⟩ := hSw
              go_simp
            simp only [Act.put, List.setIfInBounds_toArray, List.set_cons_zero, List.set_cons_succ]
            refine HeldBut.take 4 (.slice aL L.length cL) hS rfl (by kernel_rfl) (by kernel_rfl) (by kernel_rfl) (by kernel_rfl) (fun _ _ _ h => h) rfl ?_ ?_
            · intro w' hSw
              obtain ⟨s1, s2, s3⟩ := hSw
              go_simp
            simp only [Act.put, List.setIfInBounds_toArray, List.set_cons_zero, List.set_cons_succ]
            refine HeldBut.take 5 (.slice (some ⟨ba, off, none⟩) k c) hS rfl (by kernel_rfl) (by kernel_rfl) (by kernel_rfl) (by kernel_rfl) (fun _ _ _ h => h) rfl ?_ ?_
            · intro w' hSw
              obtain ⟨s1, s2, s3⟩ := hSw
              go_simp
            simp only [Act.put, List.setIfInBounds_toArray, List.set_cons_zero, List.set_cons_succ]
            refine HeldBut.take 6 (.int .i64 (x : Int)) hS rfl (by kernel_rfl) (by kernel_rfl) (by kernel_rfl) (by kernel_rfl) (fun _ _ _ h => h) rfl ?_ ?_
            · intro w' hSw
              obtain ⟨s1, s2, s3⟩ := hSw
              go_simp
            simp only [Act.put, List.setIfInBounds_toArray, List.set_cons_zero, List.set_cons_succ]
            refine HeldBut.take 7 (.pointer (some ⟨ba, off + x, none⟩)) hS rfl (by kernel_rfl) (by kernel_rfl) (by kernel_rfl) (by kernel_rfl) (fun _ _ _ h => h) rfl ?_ ?_
            · intro w' hSw
              obtain ⟨s1, s2, s3⟩ := hSw
              go_simp
            simp only [Act.put, List.setIfInBounds_toArray, List.set_cons_zero, List.set_cons_succ]
            refine HeldBut.take 8 (.int .i64 v) hS rfl (by kernel_rfl) (by kernel_rfl) (by kernel_rfl) (by kernel_rfl) (fun _ _ _ h => h) rfl ?_ ?_
            · intro w' hSw
              obtain ⟨s1, s2, s3⟩ := hSw
              go_simp
            simp only [Act.put, List.setIfInBounds_toArray, List.set_cons_zero, List.set_cons_succ]
            clear hS
            refine HeldBut.step 9 rfl (by kernel_rfl) (fun K hK => ?_)
            go_simp
            have hcm4 : (w3.alloc (Obj.cells #[Value.int IntKind.i64 v] 3)).cell? ⟨ba, off + x, none⟩ = some (.int .i64 v) := by rw [World.cell?_alloc_lt _ _ _ (World.block_lt_of_cell? w3 _ hcm3)]; exact hcm3
            have HI4 : Hid (Inv w (w3.alloc (Obj.cells #[Value.int IntKind.i64 v] 3)) w.heap.size (w.heap.size + 1) b3 base (some ⟨ba, off, none⟩) k c od L aL cL rs aR cR) := HI3.out.alloc _
            have hS : (w3.alloc (Obj.cells #[Value.int IntKind.i64 v] 3)).cell? ⟨w.heap.size + 1, 0, none⟩ = some (.slice aL L.length cL) ∧ (w3.alloc (Obj.cells #[Value.int IntKind.i64 v] 3)).cell? ⟨w.heap.size, 0, none⟩ = some (.slice (some ⟨ba, off, none⟩) k c) ∧ (w3.alloc (Obj.cells #[Value.int IntKind.i64 v] 3)).cell? ⟨ba, off + x, none⟩ = some (.int .i64 v) := ⟨HI4.out.cellL, HI4.out.cellB, hcm4⟩
            refine hK _ _ (fun _ => hS) ?_
            clear hK K hcm3 hcm4
            have hnew := cell_new w3 (Value.int IntKind.i64 v) 3
            have hbs := HI4.out.hbase
            have hbelS := HI4.out.bel.size
            refine HeldBut.step 10 rfl (by kernel_rfl) (fun K hK => ?_)
            refine step_append_two rfl (.tmp 59) (.tmp 64) 28 rfl base 3 i3 (.int .i64 0) 8 Yba.underlying28 hi3 hz0 hz1 hz2 rfl (.slice aL L.length cL) L.length (L.map (Value.int .i64)) rfl HI4.out.ownL ⟨w3.heap.size, 0, none⟩ (.int .i64 v) rfl hnew rfl (by unfold maxLen; omega) (by omega) hbs ?_
            intro a5 cap5 w5 hown5 hgrow5 hd5
            have hkp := HI4.out.keep hgrow5 (fun q hq => (HI4.out.ownL.lt q hq).1)
            have hS5 : w5.cell? ⟨w.heap.size + 1, 0, none⟩ = some (.slice aL L.length cL) ∧ w5.cell? ⟨w.heap.size, 0, none⟩ = some (.slice (some ⟨ba, off, none⟩) k c) ∧ w5.cell? ⟨ba, off + x, none⟩ = some (.int .i64 v) := ⟨by simp [World.cell?, hkp.2.1], by simp [World.cell?, hkp.1], (hgrow5.cell hS.2.2 (by intro e; have h1 := (HI4.out.ownL.lt ba e.symm).1; have := HLB.out; have := hba; omega))⟩
            have hfr5 : w5.frozen? ⟨w.heap.size + 1, 0, none⟩ = false := by simp [World.frozen?, hkp.2.1]
            have HI6 : Hid (Inv w (w5.setCell ⟨w.heap.size + 1, 0, none⟩ (.slice a5 (L.length + 1) cap5)) w.heap.size (w.heap.size + 1) b3 base (some ⟨ba, off, none⟩) k c od (L ++ [v]) a5 cap5 rs aR cR) := HI4.out.addL hown5 hgrow5
            refine hK _ _ (fun _ => hS5) ?_
            clear hK K hS hnew hbs hbelS hown5 hgrow5 hd5 hkp HI3 HI4
            have hS : w5.cell? ⟨w.heap.size + 1, 0, none⟩ = some (.slice aL L.length cL) ∧ w5.cell? ⟨w.heap.size, 0, none⟩ = some (.slice (some ⟨ba, off, none⟩) k c) ∧ w5.cell? ⟨ba, off + x, none⟩ = some (.int .i64 v) := hS5
            simp only [Act.put, List.setIfInBounds_toArray, List.set_cons_zero, List.set_cons_succ]
            refine HeldBut.step 11 rfl (by kernel_rfl) (fun K hK => ?_)
            go_simp
            refine hK _ _ (fun _ => hS) ?_
            clear hK K
            refine HeldBut.step 12 rfl (by kernel_rfl) (fun K hK => ?_)
            go_simp
            refine hK _ _ (fun _ => hS) ?_
            clear hK K
            clear hS
            have hcl5 := hS5.1
            clear hS5
            refine HeldBut.step 13 rfl (by kernel_rfl) (fun K hK => ?_)
            go_simp
            refine hK _ _ (fun h => absurd rfl h) ?_
            clear hK K hcl5 hfr5
            refine HeldBut.done (by kernel_rfl) ?_ _
            generalize w5.setCell ⟨w.heap.size + 1, 0, none⟩ (.slice a5 (L.length + 1) cap5) = w6 at HI6 ⊢
            have hcr6 := HI6.out.cellR
            have hfr6 := HI6.out.fr 1
            go_wp2_with (at_builtin; refine wpList_append_two _ rfl (.tmp 72) (.tmp 73) 32 rfl base 28 i28 (.slice none 0 0) 24 Yba.underlying32 hi28 hy0 hy1 hy2 rfl (.slice aR rs.length cR) rs.length rs rfl (HI6.out.ownR.alloc _) ⟨w6.heap.size, 0, none⟩ (.slice none 0 0) rfl (cell_new _ _ _) rfl (by have := HRL.out; unfold maxLen; omega) (by have := HRL.out; omega) (HI6.out.alloc _).hbase ?_)
            intro a7 cap7 w7 hown7 hgrow7
            obtain ⟨gR, rfl⟩ := owns_some hown7 (by omega)
            have hkp := (HI6.out.alloc (Obj.cells #[Value.slice none 0 0] 28)).keep hgrow7 (fun q hq => (HI6.out.ownR.lt q hq).1)
            have hc7 : w7.cell? ⟨w.heap.size + 1, 1, none⟩ = some (.slice aR rs.length cR) := by simp [World.cell?, hkp.2.1]
            have hf7 : w7.frozen? ⟨w.heap.size + 1, 1, none⟩ = false := by simp [World.frozen?, hkp.2.1]
            have HI8 : Hid (Inv w (w7.setCell ⟨w.heap.size + 1, 1, none⟩ (.slice (some ⟨gR, 0, none⟩) (rs.length + 1) cap7)) w.heap.size (w.heap.size + 1) b3 base (some ⟨ba, off, none⟩) k c od (L ++ [v]) a5 cap5 (rs ++ [.slice none 0 0]) (some ⟨gR, 0, none⟩) cap7) := (HI6.out.alloc (Obj.cells #[Value.slice none 0 0] 28)).addR hown7 hgrow7
            clear hkp hown7 hgrow7 hcr6 hfr6 HI6
            go_wp2
            have HL8 : Hid (Last (w7.setCell ⟨w.heap.size + 1, 1, none⟩ (.slice (some ⟨gR, 0, none⟩) (rs.length + 1) cap7)) base a5 (L ++ [v]).length cap5 rs (rs ++ [.slice none 0 0]) none 0 0 []) := ⟨rfl, World.ownsRow_nil _ _ _ _, by cases h : Value.ownBlock (.slice a5 (L ++ [v]).length cap5) <;> simp [Value.ownBlock]⟩
            generalize w7.setCell ⟨w.heap.size + 1, 1, none⟩ (.slice (some ⟨gR, 0, none⟩) (rs.length + 1) cap7) = w8 at HI8 HL8 ⊢
            have hlm8 : 0 ≤ j := Nat.zero_le _
            have hrb : rs.length ≤ 1023 := by have := HRL.out; omega
            refine HeldBut.begin 26 (fun w' => w'.cell? ⟨w.heap.size + 1, 1, none⟩ = some (.slice (some ⟨gR, 0, none⟩) (rs.length + 1) cap7) ∧ w'.cell? ⟨gR, rs.length, none⟩ = some (.slice none 0 0)) (by kernel_rfl) ?_
            have HI9 : Hid (Inv w w8.drew w.heap.size (w.heap.size + 1) b3 base (some ⟨ba, off, none⟩) k c od (L ++ [v]) a5 cap5 (rs ++ [.slice none 0 0]) (some ⟨gR, 0, none⟩) cap7) := HI8.out.drew
            have HL9 : Hid (Last w8.drew base a5 (L ++ [v]).length cap5 rs (rs ++ [.slice none 0 0]) none 0 0 []) := HL8.out.drew
            clear HI8 HL8
            generalize w8.drew = w9 at HI9 HL9 ⊢
            have hrt := HI9.out.routes HL9.out
            have hS : w9.cell? ⟨w.heap.size + 1, 1, none⟩ = some (.slice (some ⟨gR, 0, none⟩) (rs.length + 1) cap7) ∧ w9.cell? ⟨gR, rs.length, none⟩ = some (.slice none 0 0) := ⟨hrt.1, hrt.2.1⟩
            clear hrt
            have r0 : (0 : Int) ≤ (rs.length : Int) := by omega
            have r1 : (rs.length : Int) < (rs.length : Int) + 1 := by omega
            have r2 : IntKind.i64.wrap (rs.length : Int) = (rs.length : Int) := by rw [IntKind.wrap_i64]; omega
            refine HeldBut.take 0 (.pointer (some ⟨w.heap.size + 1, 0, none⟩)) hS rfl (by kernel_rfl) (by kernel_rfl) (by kernel_rfl) (by kernel_rfl) (fun _ _ _ h => h) rfl ?_ ?_
            · intro w' hSw
              obtain ⟨s1, s2⟩ := hSw
              go_simp
            simp only [Act.put, List.setIfInBounds_toArray, List.set_cons_zero, List.set_cons_succ]
            refine HeldBut.take 1 (.pointer (some ⟨w.heap.size + 1, 0, none⟩)) hS rfl (by kernel_rfl) (by kernel_rfl) (by kernel_rfl) (by kernel_rfl) (fun _ _ _ h => h) rfl ?_ ?_
            · intro w' hSw
              obtain ⟨s1, s2⟩ := hSw
              go_simp
            simp only [Act.put, List.setIfInBounds_toArray, List.set_cons_zero, List.set_cons_succ]
            refine HeldBut.take 2 (.pointer (some ⟨w.heap.size + 1, 1, none⟩)) hS rfl (by kernel_rfl) (by kernel_rfl) (by kernel_rfl) (by kernel_rfl) (fun _ _ _ h => h) rfl ?_ ?_
            · intro w' hSw
              obtain ⟨s1, s2⟩ := hSw
              go_simp
            simp only [Act.put, List.setIfInBounds_toArray, List.set_cons_zero, List.set_cons_succ]
            refine HeldBut.take 3 (.slice (some ⟨gR, 0, none⟩) (rs.length + 1) cap7) hS rfl (by kernel_rfl) (by kernel_rfl) (by kernel_rfl) (by kernel_rfl) (fun _ _ _ h => h) rfl ?_ ?_
            · intro w' hSw
              obtain ⟨s1, s2⟩ := hSw
              go_simp
            simp only [Act.put, List.setIfInBounds_toArray, List.set_cons_zero, List.set_cons_succ]
            refine HeldBut.take 4 (.pointer (some ⟨w.heap.size + 1, 0, none⟩)) hS rfl (by kernel_rfl) (by kernel_rfl) (by kernel_rfl) (by kernel_rfl) (fun _ _ _ h => h) rfl ?_ ?_
            · intro w' hSw
              obtain ⟨s1, s2⟩ := hSw
              go_simp
            simp only [Act.put, List.setIfInBounds_toArray, List.set_cons_zero, List.set_cons_succ]
            refine HeldBut.take 5 (.pointer (some ⟨w.heap.size + 1, 0, none⟩)) hS rfl (by kernel_rfl) (by kernel_rfl) (by kernel_rfl) (by kernel_rfl) (fun _ _ _ h => h) rfl ?_ ?_
            · intro w' hSw
              obtain ⟨s1, s2⟩ := hSw
              go_simp
            simp only [Act.put, List.setIfInBounds_toArray, List.set_cons_zero, List.set_cons_succ]
            refine HeldBut.take 6 (.pointer (some ⟨w.heap.size + 1, 1, none⟩)) hS rfl (by kernel_rfl) (by kernel_rfl) (by kernel_rfl) (by kernel_rfl) (fun _ _ _ h => h) rfl ?_ ?_
            · intro w' hSw
              obtain ⟨s1, s2⟩ := hSw
              go_simp
            simp only [Act.put, List.setIfInBounds_toArray, List.set_cons_zero, List.set_cons_succ]
            refine HeldBut.take 7 (.slice (some ⟨gR, 0, none⟩) (rs.length + 1) cap7) hS rfl (by kernel_rfl) (by kernel_rfl) (by kernel_rfl) (by kernel_rfl) (fun _ _ _ h => h) rfl ?_ ?_
            · intro w' hSw
              obtain ⟨s1, s2⟩ := hSw
              go_simp
            simp only [Act.put, List.setIfInBounds_toArray, List.set_cons_zero, List.set_cons_succ]
            refine HeldBut.take 8 (.int .i64 ((rs.length : Int) + 1)) hS rfl (by kernel_rfl) (by kernel_rfl) (by kernel_rfl) (by kernel_rfl) (fun _ _ _ h => h) rfl ?_ ?_
            · intro w' hSw
              obtain ⟨s1, s2⟩ := hSw
              go_simp
            simp only [Act.put, List.setIfInBounds_toArray, List.set_cons_zero, List.set_cons_succ]
            refine HeldBut.take 9 (.int .i64 (rs.length : Int)) hS rfl (by kernel_rfl) (by kernel_rfl) (by kernel_rfl) (by kernel_rfl) (fun _ _ _ h => h) rfl ?_ ?_
            · intro w' hSw
              obtain ⟨s1, s2⟩ := hSw
              go_simp
            simp only [Act.put, List.setIfInBounds_toArray, List.set_cons_zero, List.set_cons_succ]
            refine HeldBut.take 10 (.pointer (some ⟨w.heap.size + 1, 0, none⟩)) hS rfl (by kernel_rfl) (by kernel_rfl) (by kernel_rfl) (by kernel_rfl) (fun _ _ _ h => h) rfl ?_ ?_
            · intro w' hSw
              obtain ⟨s1, s2⟩ := hSw
              go_simp
            simp only [Act.put, List.setIfInBounds_toArray, List.set_cons_zero, List.set_cons_succ]
            refine HeldBut.take 11 (.pointer (some ⟨w.heap.size + 1, 0, none⟩)) hS rfl (by kernel_rfl) (by kernel_rfl) (by kernel_rfl) (by kernel_rfl) (fun _ _ _ h => h) rfl ?_ ?_
            · intro w' hSw
              obtain ⟨s1, s2⟩ := hSw
              go_simp
            simp only [Act.put, List.setIfInBounds_toArray, List.set_cons_zero, List.set_cons_succ]
            refine HeldBut.take 12 (.pointer (some ⟨w.heap.size + 1, 1, none⟩)) hS rfl (by kernel_rfl) (by kernel_rfl) (by kernel_rfl) (by kernel_rfl) (fun _ _ _ h => h) rfl ?_ ?_
            · intro w' hSw
              obtain ⟨s1, s2⟩ := hSw
              go_simp
            simp only [Act.put, List.setIfInBounds_toArray, List.set_cons_zero, List.set_cons_succ]
            refine HeldBut.take 13 (.slice (some ⟨gR, 0, none⟩) (rs.length + 1) cap7) hS rfl (by kernel_rfl) (by kernel_rfl) (by kernel_rfl) (by kernel_rfl) (fun _ _ _ h => h) rfl ?_ ?_
            · intro w' hSw
              obtain ⟨s1, s2⟩ := hSw
              go_simp
            simp only [Act.put, List.setIfInBounds_toArray, List.set_cons_zero, List.set_cons_succ]
            refine HeldBut.take 14 (.pointer (some ⟨w.heap.size + 1, 0, none⟩)) hS rfl (by kernel_rfl) (by kernel_rfl) (by kernel_rfl) (by kernel_rfl) (fun _ _ _ h => h) rfl ?_ ?_
            · intro w' hSw
              obtain ⟨s1, s2⟩ := hSw
              go_simp
            simp only [Act.put, List.setIfInBounds_toArray, List.set_cons_zero, List.set_cons_succ]
            refine HeldBut.take 15 (.pointer (some ⟨w.heap.size + 1, 0, none⟩)) hS rfl (by kernel_rfl) (by kernel_rfl) (by kernel_rfl) (by kernel_rfl) (fun _ _ _ h => h) rfl ?_ ?_
            · intro w' hSw
              obtain ⟨s1, s2⟩ := hSw
              go_simp
            simp only [Act.put, List.setIfInBounds_toArray, List.set_cons_zero, List.set_cons_succ]
            refine HeldBut.take 16 (.pointer (some ⟨w.heap.size + 1, 1, none⟩)) hS rfl (by kernel_rfl) (by kernel_rfl) (by kernel_rfl) (by kernel_rfl) (fun _ _ _ h => h) rfl ?_ ?_
            · intro w' hSw
              obtain ⟨s1, s2⟩ := hSw
              go_simp
            simp only [Act.put, List.setIfInBounds_toArray, List.set_cons_zero, List.set_cons_succ]
            refine HeldBut.take 17 (.slice (some ⟨gR, 0, none⟩) (rs.length + 1) cap7) hS rfl (by kernel_rfl) (by kernel_rfl) (by kernel_rfl) (by kernel_rfl) (fun _ _ _ h => h) rfl ?_ ?_
            · intro w' hSw
              obtain ⟨s1, s2⟩ := hSw
              go_simp
            simp only [Act.put, List.setIfInBounds_toArray, List.set_cons_zero, List.set_cons_succ]
            refine HeldBut.take 18 (.int .i64 ((rs.length : Int) + 1)) hS rfl (by kernel_rfl) (by kernel_rfl) (by kernel_rfl) (by kernel_rfl) (fun _ _ _ h => h) rfl ?_ ?_
            · intro w' hSw
              obtain ⟨s1, s2⟩ := hSw
              go_simp
            simp only [Act.put, List.setIfInBounds_toArray, List.set_cons_zero, List.set_cons_succ]
            refine HeldBut.take 19 (.int .i64 (rs.length : Int)) hS rfl (by kernel_rfl) (by kernel_rfl) (by kernel_rfl) (by kernel_rfl) (fun _ _ _ h => h) rfl ?_ ?_
            · intro w' hSw
              obtain ⟨s1, s2⟩ := hSw
              go_simp
            simp only [Act.put, List.setIfInBounds_toArray, List.set_cons_zero, List.set_cons_succ]
            refine HeldBut.take 20 (.pointer (some ⟨gR, rs.length, none⟩)) hS rfl (by kernel_rfl) (by kernel_rfl) (by kernel_rfl) (by kernel_rfl) (fun _ _ _ h => h) rfl ?_ ?_
            · intro w' hSw
              obtain ⟨s1, s2⟩ := hSw
              go_simp
            simp only [Act.put, List.setIfInBounds_toArray, List.set_cons_zero, List.set_cons_succ]
            refine HeldBut.take 21 (.slice none 0 0) hS rfl (by kernel_rfl) (by kernel_rfl) (by kernel_rfl) (by kernel_rfl) (fun _ _ _ h => h) rfl ?_ ?_
            · intro w' hSw
              obtain ⟨s1, s2⟩ := hSw
              go_simp
            simp only [Act.put, List.setIfInBounds_toArray, List.set_cons_zero, List.set_cons_succ]
            refine HeldBut.take 22 (.int .i64 (x : Int)) hS rfl (by kernel_rfl) (by kernel_rfl) (by kernel_rfl) (by kernel_rfl) (fun _ _ _ h => h) rfl ?_ ?_
            · intro w' hSw
              obtain ⟨s1, s2⟩ := hSw
              go_simp
            simp only [Act.put, List.setIfInBounds_toArray, List.set_cons_zero, List.set_cons_succ]
            clear hS
            refine HeldBut.step 23 rfl (by kernel_rfl) (fun K hK => ?_)
            go_simp
            have HI10 : Hid (Inv w (w9.alloc (Obj.cells #[Value.int IntKind.i64 (x : Int)] 3)) w.heap.size (w.heap.size + 1) b3 base (some ⟨ba, off, none⟩) k c od (L ++ [v]) a5 cap5 (rs ++ [.slice none 0 0]) (some ⟨gR, 0, none⟩) cap7) := HI9.out.alloc _
            have HL10 : Hid (Last (w9.alloc (Obj.cells #[Value.int IntKind.i64 (x : Int)] 3)) base a5 (L ++ [v]).length cap5 rs (rs ++ [.slice none 0 0]) none 0 0 []) := HL9.out.alloc _
            have hrt := HI10.out.routes HL10.out
            have hS : (w9.alloc (Obj.cells #[Value.int IntKind.i64 (x : Int)] 3)).cell? ⟨w.heap.size + 1, 1, none⟩ = some (.slice (some ⟨gR, 0, none⟩) (rs.length + 1) cap7) ∧ (w9.alloc (Obj.cells #[Value.int IntKind.i64 (x : Int)] 3)).cell? ⟨gR, rs.length, none⟩ = some (.slice none 0 0) := ⟨hrt.1, hrt.2.1⟩
            clear hrt
            refine hK _ _ (fun _ => hS) ?_
            clear hK K
            have hnew := cell_new w9 (Value.int IntKind.i64 (x : Int)) 3
            have hbs := HI10.out.hbase
            refine HeldBut.step 24 rfl (by kernel_rfl) (fun K hK => ?_)
            refine step_append_two rfl (.tmp 98) (.tmp 100) 28 rfl base 3 i3 (.int .i64 0) 8 Yba.underlying28 hi3 hz0 hz1 hz2 rfl (.slice none 0 0) 0 [] rfl HL10.out.own ⟨w9.heap.size, 0, none⟩ (.int .i64 (x : Int)) rfl hnew rfl (by unfold maxLen; omega) (by omega) hbs ?_
            intro a11 cap11 w11 hown11 hgrow11 hd11
            have hrt := HI10.out.routes' HL10.out hgrow11
            have hfin := HI10.out.addI HL10.out hown11 hgrow11 hd11
            have hS11 : w11.cell? ⟨w.heap.size + 1, 1, none⟩ = some (.slice (some ⟨gR, 0, none⟩) (rs.length + 1) cap7) ∧ w11.cell? ⟨gR, rs.length, none⟩ = some (.slice none 0 0) := ⟨hrt.1, hrt.2.1⟩
            have hfr11 := hrt.2.2
            refine hK _ _ (fun _ => hS11) ?_
            clear hK K hS hnew hbs hown11 hgrow11 hd11 hrt HI9 HL9 HI10 HL10
            have hS : w11.cell? ⟨w.heap.size + 1, 1, none⟩ = some (.slice (some ⟨gR, 0, none⟩) (rs.length + 1) cap7) ∧ w11.cell? ⟨gR, rs.length, none⟩ = some (.slice none 0 0) := hS11
            have HF : Hid (Inv w (w11.setCell ⟨gR, rs.length, none⟩ (.slice a11 (0 + 1) cap11)) w.heap.size (w.heap.size + 1) b3 base (some ⟨ba, off, none⟩) k c od (L ++ [v]) a5 cap5 (rs ++ [.slice a11 (0 + 1) cap11]) (some ⟨gR, 0, none⟩) cap7 ∧ Last (w11.setCell ⟨gR, rs.length, none⟩ (.slice a11 (0 + 1) cap11)) base a5 (L ++ [v]).length cap5 rs (rs ++ [.slice a11 (0 + 1) cap11]) a11 (0 + 1) cap11 ([] ++ [.int .i64 (x : Int)])) := hfin
            clear hfin hS11
            refine HeldBut.step 25 rfl (by kernel_rfl) (fun K hK => ?_)
            go_simp
            refine hK _ _ (fun _ => hS) ?_
            clear hK K
            have hcl11 := hS.2
            clear hS
            refine HeldBut.step 26 rfl (by kernel_rfl) (fun K hK => ?_)
            go_simp
            refine hK _ _ (fun h => absurd rfl h) ?_
            clear hK K hcl11 hfr11
            refine HeldBut.done (by kernel_rfl) ?_ _
            clear r0 r1 r2
            go_wp2
            go_roundw
            case rel =>
              refine ⟨j + 1, by omega, by go_num, ?_⟩
              rw [HD.out]
              exact ⟨a5, cap5, rs ++ [.slice a11 (0 + 1) cap11], some ⟨gR, 0, none⟩, cap7, HF.out.1, by have := HRL.out; simp at this ⊢; omega, fun _ => ⟨rs, a11, 0 + 1, cap11, _, HF.out.2, by omega⟩⟩
            case measure => simp [intOf]; omega
          · obtain ⟨p, hp⟩ : ∃ p, L.length = p + 1 := ⟨L.length - 1, by omega⟩
            obtain ⟨gL, rfl⟩ := owns_some HI.out.ownL (by omega)
            have hcy : wr.cell? ⟨gL, p, none⟩ = some (.int .i64 (L[p]?.getD 0)) := by
              rw [HI.out.ownL.cellAt p (by omega), List.getElem?_map, List.getElem?_eq_getElem (by omega)]; rfl
            have hg : decide ((p : Int) < 0) = false := decide_eq_false (by omega)
            have hip : (p : Int) < (p : Int) + 1 := by omega
            by_cases hy : L[p]?.getD 0 = v
            · rw [hy] at hcy
              have HD : Hid (dd vs (j + 1) = L) := by
                have := HDD.out
                rw [adds_no hp hy, if_neg (by simp)] at this
                exact this
              obtain ⟨rs0, la, lm, lc, xs, HLA, hlm⟩ := HLAST.out (by intro e; have := HRL.out; rw [e] at this; simp at this; omega)
              have HLB2 : Hid (Last wr base (some ⟨gL, 0, none⟩) L.length cL rs0 rs la lm lc xs) := HLA
              have hrs : rs.length = rs0.length + 1 := by rw [HLA.eq]; simp
              have hrb : rs0.length ≤ 1023 := by have := HRL.out; omega
              have HRS : Hid (rs.length = rs0.length + 1) := hrs
              obtain ⟨gR, rfl⟩ := owns_some HI.out.ownR (by omega)
              clear HDD HLAST HLA hy h0 hrs
              go_wp2
              go_quiet (fail)
              have HI8 : Hid (Inv w (wr.drewN nq) w.heap.size (w.heap.size + 1) b3 base (some ⟨ba, off, none⟩) k c od L (some ⟨gL, 0, none⟩) cL rs (some ⟨gR, 0, none⟩) cR) := HI.out.drewN nq
              have HL8 : Hid (Last (wr.drewN nq) base (some ⟨gL, 0, none⟩) L.length cL rs0 rs la lm lc xs) := HLB2.out.drewN nq
              generalize wr.drewN nq = w8 at HI8 HL8 ⊢
              clear hco hcb hcl hcr hcm hg hcy hip HI HLB2
              have HP : Hid (L.length = p + 1) := hp
              go_wp2
              clear hp
              refine HeldBut.begin 26 (fun w' => w'.cell? ⟨w.heap.size + 1, 1, none⟩ = some (.slice (some ⟨gR, 0, none⟩) (rs0.length + 1) cR) ∧ w'.cell? ⟨gR, rs0.length, none⟩ = some (.slice la lm lc)) (by kernel_rfl) ?_
              have HI9 : Hid (Inv w w8.drew w.heap.size (w.heap.size + 1) b3 base (some ⟨ba, off, none⟩) k c od L (some ⟨gL, 0, none⟩) cL rs (some ⟨gR, 0, none⟩) cR) := HI8.out.drew
              have HL9 : Hid (Last w8.drew base (some ⟨gL, 0, none⟩) L.length cL rs0 rs la lm lc xs) := HL8.out.drew
              clear HI8 HL8
              generalize w8.drew = w9 at HI9 HL9 ⊢
              have hrt := HI9.out.routes HL9.out
              have hS : w9.cell? ⟨w.heap.size + 1, 1, none⟩ = some (.slice (some ⟨gR, 0, none⟩) (rs0.length + 1) cR) ∧ w9.cell? ⟨gR, rs0.length, none⟩ = some (.slice la lm lc) := ⟨hrt.1, hrt.2.1⟩
              clear hrt
              have r0 : (0 : Int) ≤ (rs0.length : Int) := by omega
              have r1 : (rs0.length : Int) < (rs0.length : Int) + 1 := by omega
              have r2 : IntKind.i64.wrap (rs0.length : Int) = (rs0.length : Int) := by rw [IntKind.wrap_i64]; omega
              refine HeldBut.take 0 (.pointer (some ⟨w.heap.size + 1, 0, none⟩)) hS rfl (by kernel_rfl) (by kernel_rfl) (by kernel_rfl) (by kernel_rfl) (fun _ _ _ h => h) rfl ?_ ?_
              · intro w' hSw
                obtain ⟨s1, s2⟩ := hSw
                go_simp
              simp only [Act.put, List.setIfInBounds_toArray, List.set_cons_zero, List.set_cons_succ]
              refine HeldBut.take 1 (.pointer (some ⟨w.heap.size + 1, 0, none⟩)) hS rfl (by kernel_rfl) (by kernel_rfl) (by kernel_rfl) (by kernel_rfl) (fun _ _ _ h => h) rfl ?_ ?_
              · intro w' hSw
                obtain ⟨s1, s2⟩ := hSw
                go_simp
              simp only [Act.put, List.setIfInBounds_toArray, List.set_cons_zero, List.set_cons_succ]
              refine HeldBut.take 2 (.pointer (some ⟨w.heap.size + 1, 1, none⟩)) hS rfl (by kernel_rfl) (by kernel_rfl) (by kernel_rfl) (by kernel_rfl) (fun _ _ _ h => h) rfl ?_ ?_
              · intro w' hSw
                obtain ⟨s1, s2⟩ := hSw
                go_simp
              simp only [Act.put, List.setIfInBounds_toArray, List.set_cons_zero, List.set_cons_succ]
              refine HeldBut.take 3 (.slice (some ⟨gR, 0, none⟩) (rs0.length + 1) cR) hS rfl (by kernel_rfl) (by kernel_rfl) (by kernel_rfl) (by kernel_rfl) (fun _ _ _ h => h) rfl ?_ ?_
              · intro w' hSw
                obtain ⟨s1, s2⟩ := hSw
                go_simp
              simp only [Act.put, List.setIfInBounds_toArray, List.set_cons_zero, List.set_cons_succ]
              refine HeldBut.take 4 (.pointer (some ⟨w.heap.size + 1, 0, none⟩)) hS rfl (by kernel_rfl) (by kernel_rfl) (by kernel_rfl) (by kernel_rfl) (fun _ _ _ h => h) rfl ?_ ?_
              · intro w' hSw
                obtain ⟨s1, s2⟩ := hSw
                go_simp
              simp only [Act.put, List.setIfInBounds_toArray, List.set_cons_zero, List.set_cons_succ]
              refine HeldBut.take 5 (.pointer (some ⟨w.heap.size + 1, 0, none⟩)) hS rfl (by kernel_rfl) (by kernel_rfl) (by kernel_rfl) (by kernel_rfl) (fun _ _ _ h => h) rfl ?_ ?_
              · intro w' hSw
                obtain ⟨s1, s2⟩ := hSw
                go_simp
              simp only [Act.put, List.setIfInBounds_toArray, List.set_cons_zero, List.set_cons_succ]
              refine HeldBut.take 6 (.pointer (some ⟨w.heap.size + 1, 1, none⟩)) hS rfl (by kernel_rfl) (by kernel_rfl) (by kernel_rfl) (by kernel_rfl) (fun _ _ _ h => h) rfl ?_ ?_
              · intro w' hSw
                obtain ⟨s1, s2⟩ := hSw
                go_simp
              simp only [Act.put, List.setIfInBounds_toArray, List.set_cons_zero, List.set_cons_succ]
              refine HeldBut.take 7 (.slice (some ⟨gR, 0, none⟩) (rs0.length + 1) cR) hS rfl (by kernel_rfl) (by kernel_rfl) (by kernel_rfl) (by kernel_rfl) (fun _ _ _ h => h) rfl ?_ ?_
              · intro w' hSw
                obtain ⟨s1, s2⟩ := hSw
                go_simp
              simp only [Act.put, List.setIfInBounds_toArray, List.set_cons_zero, List.set_cons_succ]
              refine HeldBut.take 8 (.int .i64 ((rs0.length : Int) + 1)) hS rfl (by kernel_rfl) (by kernel_rfl) (by kernel_rfl) (by kernel_rfl) (fun _ _ _ h => h) rfl ?_ ?_
              · intro w' hSw
                obtain ⟨s1, s2⟩ := hSw
                go_simp
              simp only [Act.put, List.setIfInBounds_toArray, List.set_cons_zero, List.set_cons_succ]
              refine HeldBut.take 9 (.int .i64 (rs0.length : Int)) hS rfl (by kernel_rfl) (by kernel_rfl) (by kernel_rfl) (by kernel_rfl) (fun _ _ _ h => h) rfl ?_ ?_
              · intro w' hSw
                obtain ⟨s1, s2⟩ := hSw
                go_simp
              simp only [Act.put, List.setIfInBounds_toArray, List.set_cons_zero, List.set_cons_succ]
              refine HeldBut.take 10 (.pointer (some ⟨w.heap.size + 1, 0, none⟩)) hS rfl (by kernel_rfl) (by kernel_rfl) (by kernel_rfl) (by kernel_rfl) (fun _ _ _ h => h) rfl ?_ ?_
              · intro w' hSw
                obtain ⟨s1, s2⟩ := hSw
                go_simp
              simp only [Act.put, List.setIfInBounds_toArray, List.set_cons_zero, List.set_cons_succ]
              refine HeldBut.take 11 (.pointer (some ⟨w.heap.size + 1, 0, none⟩)) hS rfl (by kernel_rfl) (by kernel_rfl) (by kernel_rfl) (by kernel_rfl) (fun _ _ _ h => h) rfl ?_ ?_
              · intro w' hSw
                obtain ⟨s1, s2⟩ := hSw
                go_simp
              simp only [Act.put, List.setIfInBounds_toArray, List.set_cons_zero, List.set_cons_succ]
              refine HeldBut.take 12 (.pointer (some ⟨w.heap.size + 1, 1, none⟩)) hS rfl (by kernel_rfl) (by kernel_rfl) (by kernel_rfl) (by kernel_rfl) (fun _ _ _ h => h) rfl ?_ ?_
              · intro w' hSw
                obtain ⟨s1, s2⟩ := hSw
                go_simp
              simp only [Act.put, List.setIfInBounds_toArray, List.set_cons_zero, List.set_cons_succ]
              refine HeldBut.take 13 (.slice (some ⟨gR, 0, none⟩) (rs0.length + 1) cR) hS rfl (by kernel_rfl) (by kernel_rfl) (by kernel_rfl) (by kernel_rfl) (fun _ _ _ h => h) rfl ?_ ?_
              · intro w' hSw
                obtain ⟨s1, s2⟩ := hSw
                go_simp
              simp only [Act.put, List.setIfInBounds_toArray, List.set_cons_zero, List.set_cons_succ]
              refine HeldBut.take 14 (.pointer (some ⟨w.heap.size + 1, 0, none⟩)) hS rfl (by kernel_rfl) (by kernel_rfl) (by kernel_rfl) (by kernel_rfl) (fun _ _ _ h => h) rfl ?_ ?_
              · intro w' hSw
                obtain ⟨s1, s2⟩ := hSw
                go_simp
              simp only [Act.put, List.setIfInBounds_toArray, List.set_cons_zero, List.set_cons_succ]
              refine HeldBut.take 15 (.pointer (some ⟨w.heap.size + 1, 0, none⟩)) hS rfl (by kernel_rfl) (by kernel_rfl) (by kernel_rfl) (by kernel_rfl) (fun _ _ _ h => h) rfl ?_ ?_
              · intro w' hSw
                obtain ⟨s1, s2⟩ := hSw
                go_simp
              simp only [Act.put, List.setIfInBounds_toArray, List.set_cons_zero, List.set_cons_succ]
              refine HeldBut.take 16 (.pointer (some ⟨w.heap.size + 1, 1, none⟩)) hS rfl (by kernel_rfl) (by kernel_rfl) (by kernel_rfl) (by kernel_rfl) (fun _ _ _ h => h) rfl ?_ ?_
              · intro w' hSw
                obtain ⟨s1, s2⟩ := hSw
                go_simp
              simp only [Act.put, List.setIfInBounds_toArray, List.set_cons_zero, List.set_cons_succ]
              refine HeldBut.take 17 (.slice (some ⟨gR, 0, none⟩) (rs0.length + 1) cR) hS rfl (by kernel_rfl) (by kernel_rfl) (by kernel_rfl) (by kernel_rfl) (fun _ _ _ h => h) rfl ?_ ?_
              · intro w' hSw
                obtain ⟨s1, s2⟩ := hSw
                go_simp
              simp only [Act.put, List.setIfInBounds_toArray, List.set_cons_zero, List.set_cons_succ]
              refine HeldBut.take 18 (.int .i64 ((rs0.length : Int) + 1)) hS rfl (by kernel_rfl) (by kernel_rfl) (by kernel_rfl) (by kernel_rfl) (fun _ _ _ h => h) rfl ?_ ?_
              · intro w' hSw
                obtain ⟨s1, s2⟩ := hSw
                go_simp
              simp only [Act.put, List.setIfInBounds_toArray, List.set_cons_zero, List.set_cons_succ]
              refine HeldBut.take 19 (.int .i64 (rs0.length : Int)) hS rfl (by kernel_rfl) (by kernel_rfl) (by kernel_rfl) (by kernel_rfl) (fun _ _ _ h => h) rfl ?_ ?_
              · intro w' hSw
                obtain ⟨s1, s2⟩ := hSw
                go_simp
              simp only [Act.put, List.setIfInBounds_toArray, List.set_cons_zero, List.set_cons_succ]
              refine HeldBut.take 20 (.pointer (some ⟨gR, rs0.length, none⟩)) hS rfl (by kernel_rfl) (by kernel_rfl) (by kernel_rfl) (by kernel_rfl) (fun _ _ _ h => h) rfl ?_ ?_
              · intro w' hSw
                obtain ⟨s1, s2⟩ := hSw
                go_simp
              simp only [Act.put, List.setIfInBounds_toArray, List.set_cons_zero, List.set_cons_succ]
              refine HeldBut.take 21 (.slice la lm lc) hS rfl (by kernel_rfl) (by kernel_rfl) (by kernel_rfl) (by kernel_rfl) (fun _ _ _ h => h) rfl ?_ ?_
              · intro w' hSw
                obtain ⟨s1, s2⟩ := hSw
                go_simp
              simp only [Act.put, List.setIfInBounds_toArray, List.set_cons_zero, List.set_cons_succ]
              refine HeldBut.take 22 (.int .i64 (x : Int)) hS rfl (by kernel_rfl) (by kernel_rfl) (by kernel_rfl) (by kernel_rfl) (fun _ _ _ h => h) rfl ?_ ?_
              · intro w' hSw
                obtain ⟨s1, s2⟩ := hSw
                go_simp
              simp only [Act.put, List.setIfInBounds_toArray, List.set_cons_zero, List.set_cons_succ]
              clear hS
              refine HeldBut.step 23 rfl (by kernel_rfl) (fun K hK => ?_)
              go_simp
              have HI10 : Hid (Inv w (w9.alloc (Obj.cells #[Value.int IntKind.i64 (x : Int)] 3)) w.heap.size (w.heap.size + 1) b3 base (some ⟨ba, off, none⟩) k c od L (some ⟨gL, 0, none⟩) cL rs (some ⟨gR, 0, none⟩) cR) := HI9.out.alloc _
              have HL10 : Hid (Last (w9.alloc (Obj.cells #[Value.int IntKind.i64 (x : Int)] 3)) base (some ⟨gL, 0, none⟩) L.length cL rs0 rs la lm lc xs) := HL9.out.alloc _
              have hrt := HI10.out.routes HL10.out
              have hS : (w9.alloc (Obj.cells #[Value.int IntKind.i64 (x : Int)] 3)).cell? ⟨w.heap.size + 1, 1, none⟩ = some (.slice (some ⟨gR, 0, none⟩) (rs0.length + 1) cR) ∧ (w9.alloc (Obj.cells #[Value.int IntKind.i64 (x : Int)] 3)).cell? ⟨gR, rs0.length, none⟩ = some (.slice la lm lc) := ⟨hrt.1, hrt.2.1⟩
              clear hrt
              refine hK _ _ (fun _ => hS) ?_
              clear hK K
              have hnew := cell_new w9 (Value.int IntKind.i64 (x : Int)) 3
              have hbs := HI10.out.hbase
              refine HeldBut.step 24 rfl (by kernel_rfl) (fun K hK => ?_)
              refine step_append_two rfl (.tmp 98) (.tmp 100) 28 rfl base 3 i3 (.int .i64 0) 8 Yba.underlying28 hi3 hz0 hz1 hz2 rfl (.slice la lm lc) lm xs rfl HL10.out.own ⟨w9.heap.size, 0, none⟩ (.int .i64 (x : Int)) rfl hnew rfl (by unfold maxLen; omega) (by omega) hbs ?_
              intro a11 cap11 w11 hown11 hgrow11 hd11
              have hrt := HI10.out.routes' HL10.out hgrow11
              have hfin := HI10.out.addI HL10.out hown11 hgrow11 hd11
              have hS11 : w11.cell? ⟨w.heap.size + 1, 1, none⟩ = some (.slice (some ⟨gR, 0, none⟩) (rs0.length + 1) cR) ∧ w11.cell? ⟨gR, rs0.length, none⟩ = some (.slice la lm lc) := ⟨hrt.1, hrt.2.1⟩
              have hfr11 := hrt.2.2
              refine hK _ _ (fun _ => hS11) ?_
              clear hK K hS hnew hbs hown11 hgrow11 hd11 hrt HI9 HL9 HI10 HL10
              have hS : w11.cell? ⟨w.heap.size + 1, 1, none⟩ = some (.slice (some ⟨gR, 0, none⟩) (rs0.length + 1) cR) ∧ w11.cell? ⟨gR, rs0.length, none⟩ = some (.slice la lm lc) := hS11
              have HF : Hid (Inv w (w11.setCell ⟨gR, rs0.length, none⟩ (.slice a11 (lm + 1) cap11)) w.heap.size (w.heap.size + 1) b3 base (some ⟨ba, off, none⟩) k c od L (some ⟨gL, 0, none⟩) cL (rs0 ++ [.slice a11 (lm + 1) cap11]) (some ⟨gR, 0, none⟩) cR ∧ Last (w11.setCell ⟨gR, rs0.length, none⟩ (.slice a11 (lm + 1) cap11)) base (some ⟨gL, 0, none⟩) L.length cL rs0 (rs0 ++ [.slice a11 (lm + 1) cap11]) a11 (lm + 1) cap11 (xs ++ [.int .i64 (x : Int)])) := hfin
              clear hfin hS11
              refine HeldBut.step 25 rfl (by kernel_rfl) (fun K hK => ?_)
              go_simp
              refine hK _ _ (fun _ => hS) ?_
              clear hK K
              have hcl11 := hS.2
              clear hS
              refine HeldBut.step 26 rfl (by kernel_rfl) (fun K hK => ?_)
              go_simp
              refine hK _ _ (fun h => absurd rfl h) ?_
              clear hK K hcl11 hfr11
              refine HeldBut.done (by kernel_rfl) ?_ _
              clear r0 r1 r2
              go_wp2
              go_roundw
              case rel =>
                refine ⟨j + 1, by omega, by go_num, ?_⟩
                rw [HD.out]
                exact ⟨(some ⟨gL, 0, none⟩), cL, rs0 ++ [.slice a11 (lm + 1) cap11], some ⟨gR, 0, none⟩, cR, HF.out.1, by have := HRL.out; have := HRS.out; simp; omega, fun _ => ⟨rs0, a11, lm + 1, cap11, _, HF.out.2, by omega⟩⟩
              case measure => simp [intOf]; omega
            · have hne : (L[p]?.getD 0 == v) = false := by simpa using hy
              have HD : Hid (dd vs (j + 1) = L ++ [v]) := by
                have := HDD.out
                rw [if_pos (adds_ne hp hy)] at this
                exact this
              clear HDD HLAST h0
              generalize L[p]?.getD 0 = y at hcy hne hy
              clear hy
              go_wp2
              go_quiet (fail)
              have HIq := HI.out.drewN nq
              have hcm2 : (wr.drewN nq).cell? ⟨ba, off + x, none⟩ = some (.int .i64 v) := hcm
              generalize wr.drewN nq = W2 at HIq hcm2 ⊢
              clear hco hcb hcl hcr hcm hg hcy hip
              have HP : Hid (L.length = p + 1) := hp
              go_wp2
              clear hp hne
              refine HeldBut.begin 13 (fun w' => w'.cell? ⟨w.heap.size + 1, 0, none⟩ = some (.slice (some ⟨gL, 0, none⟩) L.length cL) ∧ w'.cell? ⟨w.heap.size, 0, none⟩ = some (.slice (some ⟨ba, off, none⟩) k c) ∧ w'.cell? ⟨ba, off + x, none⟩ = some (.int .i64 v)) (by kernel_rfl) ?_
              have HI3 : Hid (Inv w W2.drew w.heap.size (w.heap.size + 1) b3 base (some ⟨ba, off, none⟩) k c od L (some ⟨gL, 0, none⟩) cL rs aR cR) := HIq.drew
              have hcm3 : W2.drew.cell? ⟨ba, off + x, none⟩ = some (.int .i64 v) := hcm2
              clear HIq hcm2
              generalize W2.drew = w3 at HI3 hcm3 ⊢
              have hS : w3.cell? ⟨w.heap.size + 1, 0, none⟩ = some (.slice (some ⟨gL, 0, none⟩) L.length cL) ∧ w3.cell? ⟨w.heap.size, 0, none⟩ = some (.slice (some ⟨ba, off, none⟩) k c) ∧ w3.cell? ⟨ba, off + x, none⟩ = some (.int .i64 v) := ⟨HI3.out.cellL, HI3.out.cellB, hcm3⟩
              refine HeldBut.take 0 (.pointer (some ⟨w.heap.size + 1, 0, none⟩)) hS rfl (by kernel_rfl) (by kernel_rfl) (by kernel_rfl) (by kernel_rfl) (fun _ _ _ h => h) rfl ?_ ?_
              · intro w' hSw
                obtain ⟨s1, s2, s3⟩ := hSw
                go_simp
              simp only [Act.put, List.setIfInBounds_toArray, List.set_cons_zero, List.set_cons_succ]
              refine HeldBut.take 1 (.pointer (some ⟨w.heap.size + 1, 0, none⟩)) hS rfl (by kernel_rfl) (by kernel_rfl) (by kernel_rfl) (by kernel_rfl) (fun _ _ _ h => h) rfl ?_ ?_
              · intro w' hSw
                obtain ⟨s1, s2, s3⟩ := hSw
                go_simp
              simp only [Act.put, List.setIfInBounds_toArray, List.set_cons_zero, List.set_cons_succ]
              refine HeldBut.take 2 (.pointer (some ⟨w.heap.size + 1, 0, none⟩)) hS rfl (by kernel_rfl) (by kernel_rfl) (by kernel_rfl) (by kernel_rfl) (fun _ _ _ h => h) rfl ?_ ?_
              · intro w' hSw
                obtain ⟨s1, s2, s3⟩ := hSw
                go_simp
              simp only [Act.put, List.setIfInBounds_toArray, List.set_cons_zero, List.set_cons_succ]
              refine HeldBut.take 3 (.pointer (some ⟨w.heap.size + 1, 0, none⟩)) hS rfl (by kernel_rfl) (by kernel_rfl) (by kernel_rfl) (by kernel_rfl) (fun _ _ _ h => h) rfl ?_ ?_
              · intro w' hSw
                obtain ⟨s1, s2, s3⟩ := hSw
                go_simp
              simp only [Act.put, List.setIfInBounds_toArray, List.set_cons_zero, List.set_cons_succ]
              refine HeldBut.take 4 (.slice (some ⟨gL, 0, none⟩) L.length cL) hS rfl (by kernel_rfl) (by kernel_rfl) (by kernel_rfl) (by kernel_rfl) (fun _ _ _ h => h) rfl ?_ ?_
              · intro w' hSw
                obtain ⟨s1, s2, s3⟩ := hSw
                go_simp
              simp only [Act.put, List.setIfInBounds_toArray, List.set_cons_zero, List.set_cons_succ]
              refine HeldBut.take 5 (.slice (some ⟨ba, off, none⟩) k c) hS rfl (by kernel_rfl) (by kernel_rfl) (by kernel_rfl) (by kernel_rfl) (fun _ _ _ h => h) rfl ?_ ?_
              · intro w' hSw
                obtain ⟨s1, s2, s3⟩ := hSw
                go_simp
              simp only [Act.put, List.setIfInBounds_toArray, List.set_cons_zero, List.set_cons_succ]
              refine HeldBut.take 6 (.int .i64 (x : Int)) hS rfl (by kernel_rfl) (by kernel_rfl) (by kernel_rfl) (by kernel_rfl) (fun _ _ _ h => h) rfl ?_ ?_
              · intro w' hSw
                obtain ⟨s1, s2, s3⟩ := hSw
                go_simp
              simp only [Act.put, List.setIfInBounds_toArray, List.set_cons_zero, List.set_cons_succ]
              refine HeldBut.take 7 (.pointer (some ⟨ba, off + x, none⟩)) hS rfl (by kernel_rfl) (by kernel_rfl) (by kernel_rfl) (by kernel_rfl) (fun _ _ _ h => h) rfl ?_ ?_
              · intro w' hSw
                obtain ⟨s1, s2, s3⟩ := hSw
                go_simp
              simp only [Act.put, List.setIfInBounds_toArray, List.set_cons_zero, List.set_cons_succ]
              refine HeldBut.take 8 (.int .i64 v) hS rfl (by kernel_rfl) (by kernel_rfl) (by kernel_rfl) (by kernel_rfl) (fun _ _ _ h => h) rfl ?_ ?_
              · intro w' hSw
                obtain ⟨s1, s2, s3⟩ := hSw
                go_simp
              simp only [Act.put, List.setIfInBounds_toArray, List.set_cons_zero, List.set_cons_succ]
              clear hS
              refine HeldBut.step 9 rfl (by kernel_rfl) (fun K hK => ?_)
              go_simp
              have hcm4 : (w3.alloc (Obj.cells #[Value.int IntKind.i64 v] 3)).cell? ⟨ba, off + x, none⟩ = some (.int .i64 v) := by rw [World.cell?_alloc_lt _ _ _ (World.block_lt_of_cell? w3 _ hcm3)]; exact hcm3
              have HI4 : Hid (Inv w (w3.alloc (Obj.cells #[Value.int IntKind.i64 v] 3)) w.heap.size (w.heap.size + 1) b3 base (some ⟨ba, off, none⟩) k c od L (some ⟨gL, 0, none⟩) cL rs aR cR) := HI3.out.alloc _
              have hS : (w3.alloc (Obj.cells #[Value.int IntKind.i64 v] 3)).cell? ⟨w.heap.size + 1, 0, none⟩ = some (.slice (some ⟨gL, 0, none⟩) L.length cL) ∧ (w3.alloc (Obj.cells #[Value.int IntKind.i64 v] 3)).cell? ⟨w.heap.size, 0, none⟩ = some (.slice (some ⟨ba, off, none⟩) k c) ∧ (w3.alloc (Obj.cells #[Value.int IntKind.i64 v] 3)).cell? ⟨ba, off + x, none⟩ = some (.int .i64 v) := ⟨HI4.out.cellL, HI4.out.cellB, hcm4⟩
              refine hK _ _ (fun _ => hS) ?_
              clear hK K hcm3 hcm4
              have hnew := cell_new w3 (Value.int IntKind.i64 v) 3
              have hbs := HI4.out.hbase
              have hbelS := HI4.out.bel.size
              refine HeldBut.step 10 rfl (by kernel_rfl) (fun K hK => ?_)
              refine step_append_two rfl (.tmp 59) (.tmp 64) 28 rfl base 3 i3 (.int .i64 0) 8 Yba.underlying28 hi3 hz0 hz1 hz2 rfl (.slice (some ⟨gL, 0, none⟩) L.length cL) L.length (L.map (Value.int .i64)) rfl HI4.out.ownL ⟨w3.heap.size, 0, none⟩ (.int .i64 v) rfl hnew rfl (by unfold maxLen; omega) (by omega) hbs ?_
              intro a5 cap5 w5 hown5 hgrow5 hd5
              have hkp := HI4.out.keep hgrow5 (fun q hq => (HI4.out.ownL.lt q hq).1)
              have hS5 : w5.cell? ⟨w.heap.size + 1, 0, none⟩ = some (.slice (some ⟨gL, 0, none⟩) L.length cL) ∧ w5.cell? ⟨w.heap.size, 0, none⟩ = some (.slice (some ⟨ba, off, none⟩) k c) ∧ w5.cell? ⟨ba, off + x, none⟩ = some (.int .i64 v) := ⟨by simp [World.cell?, hkp.2.1], by simp [World.cell?, hkp.1], (hgrow5.cell hS.2.2 (by intro e; have h1 := (HI4.out.ownL.lt ba e.symm).1; have := HLB.out; have := hba; omega))⟩
              have hfr5 : w5.frozen? ⟨w.heap.size + 1, 0, none⟩ = false := by simp [World.frozen?, hkp.2.1]
              have HI6 : Hid (Inv w (w5.setCell ⟨w.heap.size + 1, 0, none⟩ (.slice a5 (L.length + 1) cap5)) w.heap.size (w.heap.size + 1) b3 base (some ⟨ba, off, none⟩) k c od (L ++ [v]) a5 cap5 rs aR cR) := HI4.out.addL hown5 hgrow5
              refine hK _ _ (fun _ => hS5) ?_
              clear hK K hS hnew hbs hbelS hown5 hgrow5 hd5 hkp HI3 HI4
              have hS : w5.cell? ⟨w.heap.size + 1, 0, none⟩ = some (.slice (some ⟨gL, 0, none⟩) L.length cL) ∧ w5.cell? ⟨w.heap.size, 0, none⟩ = some (.slice (some ⟨ba, off, none⟩) k c) ∧ w5.cell? ⟨ba, off + x, none⟩ = some (.int .i64 v) := hS5
              simp only [Act.put, List.setIfInBounds_toArray, List.set_cons_zero, List.set_cons_succ]
              refine HeldBut.step 11 rfl (by kernel_rfl) (fun K hK => ?_)
              go_simp
              refine hK _ _ (fun _ => hS) ?_
              clear hK K
              refine HeldBut.step 12 rfl (by kernel_rfl) (fun K hK => ?_)
              go_simp
              refine hK _ _ (fun _ => hS) ?_
              clear hK K
              clear hS
              have hcl5 := hS5.1
              clear hS5
              refine HeldBut.step 13 rfl (by kernel_rfl) (fun K hK => ?_)
              go_simp
              refine hK _ _ (fun h => absurd rfl h) ?_
              clear hK K hcl5 hfr5
              refine HeldBut.done (by kernel_rfl) ?_ _
              generalize w5.setCell ⟨w.heap.size + 1, 0, none⟩ (.slice a5 (L.length + 1) cap5) = w6 at HI6 ⊢
              have hcr6 := HI6.out.cellR
              have hfr6 := HI6.out.fr 1
              go_wp2_with (at_builtin; refine wpList_append_two _ rfl (.tmp 72) (.tmp 73) 32 rfl base 28 i28 (.slice none 0 0) 24 Yba.underlying32 hi28 hy0 hy1 hy2 rfl (.slice aR rs.length cR) rs.length rs rfl (HI6.out.ownR.alloc _) ⟨w6.heap.size, 0, none⟩ (.slice none 0 0) rfl (cell_new _ _ _) rfl (by have := HRL.out; unfold maxLen; omega) (by have := HRL.out; omega) (HI6.out.alloc _).hbase ?_)
              intro a7 cap7 w7 hown7 hgrow7
              obtain ⟨gR, rfl⟩ := owns_some hown7 (by omega)
              have hkp := (HI6.out.alloc (Obj.cells #[Value.slice none 0 0] 28)).keep hgrow7 (fun q hq => (HI6.out.ownR.lt q hq).1)
              have hc7 : w7.cell? ⟨w.heap.size + 1, 1, none⟩ = some (.slice aR rs.length cR) := by simp [World.cell?, hkp.2.1]
              have hf7 : w7.frozen? ⟨w.heap.size + 1, 1, none⟩ = false := by simp [World.frozen?, hkp.2.1]
              have HI8 : Hid (Inv w (w7.setCell ⟨w.heap.size + 1, 1, none⟩ (.slice (some ⟨gR, 0, none⟩) (rs.length + 1) cap7)) w.heap.size (w.heap.size + 1) b3 base (some ⟨ba, off, none⟩) k c od (L ++ [v]) a5 cap5 (rs ++ [.slice none 0 0]) (some ⟨gR, 0, none⟩) cap7) := (HI6.out.alloc (Obj.cells #[Value.slice none 0 0] 28)).addR hown7 hgrow7
              clear hkp hown7 hgrow7 hcr6 hfr6 HI6
              go_wp2
              have HL8 : Hid (Last (w7.setCell ⟨w.heap.size + 1, 1, none⟩ (.slice (some ⟨gR, 0, none⟩) (rs.length + 1) cap7)) base a5 (L ++ [v]).length cap5 rs (rs ++ [.slice none 0 0]) none 0 0 []) := ⟨rfl, World.ownsRow_nil _ _ _ _, by cases h : Value.ownBlock (.slice a5 (L ++ [v]).length cap5) <;> simp [Value.ownBlock]⟩
              generalize w7.setCell ⟨w.heap.size + 1, 1, none⟩ (.slice (some ⟨gR, 0, none⟩) (rs.length + 1) cap7) = w8 at HI8 HL8 ⊢
              have hlm8 : 0 ≤ j := Nat.zero_le _
              have hrb : rs.length ≤ 1023 := by have := HRL.out; omega
              refine HeldBut.begin 26 (fun w' => w'.cell? ⟨w.heap.size + 1, 1, none⟩ = some (.slice (some ⟨gR, 0, none⟩) (rs.length + 1) cap7) ∧ w'.cell? ⟨gR, rs.length, none⟩ = some (.slice none 0 0)) (by kernel_rfl) ?_
              have HI9 : Hid (Inv w w8.drew w.heap.size (w.heap.size + 1) b3 base (some ⟨ba, off, none⟩) k c od (L ++ [v]) a5 cap5 (rs ++ [.slice none 0 0]) (some ⟨gR, 0, none⟩) cap7) := HI8.out.drew
              have HL9 : Hid (Last w8.drew base a5 (L ++ [v]).length cap5 rs (rs ++ [.slice none 0 0]) none 0 0 []) := HL8.out.drew
              clear HI8 HL8
              generalize w8.drew = w9 at HI9 HL9 ⊢
              have hrt := HI9.out.routes HL9.out
              have hS : w9.cell? ⟨w.heap.size + 1, 1, none⟩ = some (.slice (some ⟨gR, 0, none⟩) (rs.length + 1) cap7) ∧ w9.cell? ⟨gR, rs.length, none⟩ = some (.slice none 0 0) := ⟨hrt.1, hrt.2.1⟩
              clear hrt
              have r0 : (0 : Int) ≤ (rs.length : Int) := by omega
              have r1 : (rs.length : Int) < (rs.length : Int) + 1 := by omega
              have r2 : IntKind.i64.wrap (rs.length : Int) = (rs.length : Int) := by rw [IntKind.wrap_i64]; omega
              refine HeldBut.take 0 (.pointer (some ⟨w.heap.size + 1, 0, none⟩)) hS rfl (by kernel_rfl) (by kernel_rfl) (by kernel_rfl) (by kernel_rfl) (fun _ _ _ h => h) rfl ?_ ?_
              · intro w' hSw
                obtain ⟨s1, s2⟩ := hSw
                go_simp
              simp only [Act.put, List.setIfInBounds_toArray, List.set_cons_zero, List.set_cons_succ]
              refine HeldBut.take 1 (.pointer (some ⟨w.heap.size + 1, 0, none⟩)) hS rfl (by kernel_rfl) (by kernel_rfl) (by kernel_rfl) (by kernel_rfl) (fun _ _ _ h => h) rfl ?_ ?_
              · intro w' hSw
                obtain ⟨s1, s2⟩ := hSw
                go_simp
              simp only [Act.put, List.setIfInBounds_toArray, List.set_cons_zero, List.set_cons_succ]
              refine HeldBut.take 2 (.pointer (some ⟨w.heap.size + 1, 1, none⟩)) hS rfl (by kernel_rfl) (by kernel_rfl) (by kernel_rfl) (by kernel_rfl) (fun _ _ _ h => h) rfl ?_ ?_
              · intro w' hSw
                obtain ⟨s1, s2⟩ := hSw
                go_simp
              simp only [Act.put, List.setIfInBounds_toArray, List.set_cons_zero, List.set_cons_succ]
              refine HeldBut.take 3 (.slice (some ⟨gR, 0, none⟩) (rs.length + 1) cap7) hS rfl (by kernel_rfl) (by kernel_rfl) (by kernel_rfl) (by kernel_rfl) (fun _ _ _ h => h) rfl ?_ ?_
              · intro w' hSw
                obtain ⟨s1, s2⟩ := hSw
                go_simp
              simp only [Act.put, List.setIfInBounds_toArray, List.set_cons_zero, List.set_cons_succ]
              refine HeldBut.take 4 (.pointer (some ⟨w.heap.size + 1, 0, none⟩)) hS rfl (by kernel_rfl) (by kernel_rfl) (by kernel_rfl) (by kernel_rfl) (fun _ _ _ h => h) rfl ?_ ?_
              · intro w' hSw
                obtain ⟨s1, s2⟩ := hSw
                go_simp
              simp only [Act.put, List.setIfInBounds_toArray, List.set_cons_zero, List.set_cons_succ]
              refine HeldBut.take 5 (.pointer (some ⟨w.heap.size + 1, 0, none⟩)) hS rfl (by kernel_rfl) (by kernel_rfl) (by kernel_rfl) (by kernel_rfl) (fun _ _ _ h => h) rfl ?_ ?_
              · intro w' hSw
                obtain ⟨s1, s2⟩ := hSw
                go_simp
              simp only [Act.put, List.setIfInBounds_toArray, List.set_cons_zero, List.set_cons_succ]
              refine HeldBut.take 6 (.pointer (some ⟨w.heap.size + 1, 1, none⟩)) hS rfl (by kernel_rfl) (by kernel_rfl) (by kernel_rfl) (by kernel_rfl) (fun _ _ _ h => h) rfl ?_ ?_
              · intro w' hSw
                obtain ⟨s1, s2⟩ := hSw
                go_simp
              simp only [Act.put, List.setIfInBounds_toArray, List.set_cons_zero, List.set_cons_succ]
              refine HeldBut.take 7 (.slice (some ⟨gR, 0, none⟩) (rs.length + 1) cap7) hS rfl (by kernel_rfl) (by kernel_rfl) (by kernel_rfl) (by kernel_rfl) (fun _ _ _ h => h) rfl ?_ ?_
              · intro w' hSw
                obtain ⟨s1, s2⟩ := hSw
                go_simp
              simp only [Act.put, List.setIfInBounds_toArray, List.set_cons_zero, List.set_cons_succ]
              refine HeldBut.take 8 (.int .i64 ((rs.length : Int) + 1)) hS rfl (by kernel_rfl) (by kernel_rfl) (by kernel_rfl) (by kernel_rfl) (fun _ _ _ h => h) rfl ?_ ?_
              · intro w' hSw
                obtain ⟨s1, s2⟩ := hSw
                go_simp
              simp only [Act.put, List.setIfInBounds_toArray, List.set_cons_zero, List.set_cons_succ]
              refine HeldBut.take 9 (.int .i64 (rs.length : Int)) hS rfl (by kernel_rfl) (by kernel_rfl) (by kernel_rfl) (by kernel_rfl) (fun _ _ _ h => h) rfl ?_ ?_
              · intro w' hSw
                obtain ⟨s1, s2⟩ := hSw
                go_simp
              simp only [Act.put, List.setIfInBounds_toArray, List.set_cons_zero, List.set_cons_succ]
              refine HeldBut.take 10 (.pointer (some ⟨w.heap.size + 1, 0, none⟩)) hS rfl (by kernel_rfl) (by kernel_rfl) (by kernel_rfl) (by kernel_rfl) (fun _ _ _ h => h) rfl ?_ ?_
              · intro w' hSw
                obtain ⟨s1, s2⟩ := hSw
                go_simp
              simp only [Act.put, List.setIfInBounds_toArray, List.set_cons_zero, List.set_cons_succ]
              refine HeldBut.take 11 (.pointer (some ⟨w.heap.size + 1, 0, none⟩)) hS rfl (by kernel_rfl) (by kernel_rfl) (by kernel_rfl) (by kernel_rfl) (fun _ _ _ h => h) rfl ?_ ?_
              · intro w' hSw
                obtain ⟨s1, s2⟩ := hSw
                go_simp
              simp only [Act.put, List.setIfInBounds_toArray, List.set_cons_zero, List.set_cons_succ]
              refine HeldBut.take 12 (.pointer (some ⟨w.heap.size + 1, 1, none⟩)) hS rfl (by kernel_rfl) (by kernel_rfl) (by kernel_rfl) (by kernel_rfl) (fun _ _ _ h => h) rfl ?_ ?_
              · intro w' hSw
                obtain ⟨s1, s2⟩ := hSw
                go_simp
              simp only [Act.put, List.setIfInBounds_toArray, List.set_cons_zero, List.set_cons_succ]
              refine HeldBut.take 13 (.slice (some ⟨gR, 0, none⟩) (rs.length + 1) cap7) hS rfl (by kernel_rfl) (by kernel_rfl) (by kernel_rfl) (by kernel_rfl) (fun _ _ _ h => h) rfl ?_ ?_
              · intro w' hSw
                obtain ⟨s1, s2⟩ := hSw
                go_simp
              simp only [Act.put, List.setIfInBounds_toArray, List.set_cons_zero, List.set_cons_succ]
              refine HeldBut.take 14 (.pointer (some ⟨w.heap.size + 1, 0, none⟩)) hS rfl (by kernel_rfl) (by kernel_rfl) (by kernel_rfl) (by kernel_rfl) (fun _ _ _ h => h) rfl ?_ ?_
              · intro w' hSw
                obtain ⟨s1, s2⟩ := hSw
                go_simp
              simp only [Act.put, List.setIfInBounds_toArray, List.set_cons_zero, List.set_cons_succ]
              refine HeldBut.take 15 (.pointer (some ⟨w.heap.size + 1, 0, none⟩)) hS rfl (by kernel_rfl) (by kernel_rfl) (by kernel_rfl) (by kernel_rfl) (fun _ _ _ h => h) rfl ?_ ?_
              · intro w' hSw
                obtain ⟨s1, s2⟩ := hSw
                go_simp
              simp only [Act.put, List.setIfInBounds_toArray, List.set_cons_zero, List.set_cons_succ]
              refine HeldBut.take 16 (.pointer (some ⟨w.heap.size + 1, 1, none⟩)) hS rfl (by kernel_rfl) (by kernel_rfl) (by kernel_rfl) (by kernel_rfl) (fun _ _ _ h => h) rfl ?_ ?_
              · intro w' hSw
                obtain ⟨s1, s2⟩ := hSw
                go_simp
              simp only [Act.put, List.setIfInBounds_toArray, List.set_cons_zero, List.set_cons_succ]
              refine HeldBut.take 17 (.slice (some ⟨gR, 0, none⟩) (rs.length + 1) cap7) hS rfl (by kernel_rfl) (by kernel_rfl) (by kernel_rfl) (by kernel_rfl) (fun _ _ _ h => h) rfl ?_ ?_
              · intro w' hSw
                obtain ⟨s1, s2⟩ := hSw
                go_simp
              simp only [Act.put, List.setIfInBounds_toArray, List.set_cons_zero, List.set_cons_succ]
              refine HeldBut.take 18 (.int .i64 ((rs.length : Int) + 1)) hS rfl (by kernel_rfl) (by kernel_rfl) (by kernel_rfl) (by kernel_rfl) (fun _ _ _ h => h) rfl ?_ ?_
              · intro w' hSw
                obtain ⟨s1, s2⟩ := hSw
                go_simp
              simp only [Act.put, List.setIfInBounds_toArray, List.set_cons_zero, List.set_cons_succ]
              refine HeldBut.take 19 (.int .i64 (rs.length : Int)) hS rfl (by kernel_rfl) (by kernel_rfl) (by kernel_rfl) (by kernel_rfl) (fun _ _ _ h => h) rfl ?_ ?_
              · intro w' hSw
                obtain ⟨s1, s2⟩ := hSw
                go_simp
              simp only [Act.put, List.setIfInBounds_toArray, List.set_cons_zero, List.set_cons_succ]
              refine HeldBut.take 20 (.pointer (some ⟨gR, rs.length, none⟩)) hS rfl (by kernel_rfl) (by kernel_rfl) (by kernel_rfl) (by kernel_rfl) (fun _ _ _ h => h) rfl ?_ ?_
              · intro w' hSw
                obtain ⟨s1, s2⟩ := hSw
                go_simp
              simp only [Act.put, List.setIfInBounds_toArray, List.set_cons_zero, List.set_cons_succ]
              refine HeldBut.take 21 (.slice none 0 0) hS rfl (by kernel_rfl) (by kernel_rfl) (by kernel_rfl) (by kernel_rfl) (fun _ _ _ h => h) rfl ?_ ?_
              · intro w' hSw
                obtain ⟨s1, s2⟩ := hSw
                go_simp
              simp only [Act.put, List.setIfInBounds_toArray, List.set_cons_zero, List.set_cons_succ]
              refine HeldBut.take 22 (.int .i64 (x : Int)) hS rfl (by kernel_rfl) (by kernel_rfl) (by kernel_rfl) (by kernel_rfl) (fun _ _ _ h => h) rfl ?_ ?_
              · intro w' hSw
                obtain ⟨s1, s2⟩ := hSw
                go_simp
              simp only [Act.put, List.setIfInBounds_toArray, List.set_cons_zero, List.set_cons_succ]
              clear hS
              refine HeldBut.step 23 rfl (by kernel_rfl) (fun K hK => ?_)
              go_simp
              have HI10 : Hid (Inv w (w9.alloc (Obj.cells #[Value.int IntKind.i64 (x : Int)] 3)) w.heap.size (w.heap.size + 1) b3 base (some ⟨ba, off, none⟩) k c od (L ++ [v]) a5 cap5 (rs ++ [.slice none 0 0]) (some ⟨gR, 0, none⟩) cap7) := HI9.out.alloc _
              have HL10 : Hid (Last (w9.alloc (Obj.cells #[Value.int IntKind.i64 (x : Int)] 3)) base a5 (L ++ [v]).length cap5 rs (rs ++ [.slice none 0 0]) none 0 0 []) := HL9.out.alloc _
              have hrt := HI10.out.routes HL10.out
              have hS : (w9.alloc (Obj.cells #[Value.int IntKind.i64 (x : Int)] 3)).cell? ⟨w.heap.size + 1, 1, none⟩ = some (.slice (some ⟨gR, 0, none⟩) (rs.length + 1) cap7) ∧ (w9.alloc (Obj.cells #[Value.int IntKind.i64 (x : Int)] 3)).cell? ⟨gR, rs.length, none⟩ = some (.slice none 0 0) := ⟨hrt.1, hrt.2.1⟩
              clear hrt
              refine hK _ _ (fun _ => hS) ?_
              clear hK K
              have hnew := cell_new w9 (Value.int IntKind.i64 (x : Int)) 3
              have hbs := HI10.out.hbase
              refine HeldBut.step 24 rfl (by kernel_rfl) (fun K hK => ?_)
              refine step_append_two rfl (.tmp 98) (.tmp 100) 28 rfl base 3 i3 (.int .i64 0) 8 Yba.underlying28 hi3 hz0 hz1 hz2 rfl (.slice none 0 0) 0 [] rfl HL10.out.own ⟨w9.heap.size, 0, none⟩ (.int .i64 (x : Int)) rfl hnew rfl (by unfold maxLen; omega) (by omega) hbs ?_
              intro a11 cap11 w11 hown11 hgrow11 hd11
              have hrt := HI10.out.routes' HL10.out hgrow11
              have hfin := HI10.out.addI HL10.out hown11 hgrow11 hd11
              have hS11 : w11.cell? ⟨w.heap.size + 1, 1, none⟩ = some (.slice (some ⟨gR, 0, none⟩) (rs.length + 1) cap7) ∧ w11.cell? ⟨gR, rs.length, none⟩ = some (.slice none 0 0) := ⟨hrt.1, hrt.2.1⟩
              have hfr11 := hrt.2.2
              refine hK _ _ (fun _ => hS11) ?_
              clear hK K hS hnew hbs hown11 hgrow11 hd11 hrt HI9 HL9 HI10 HL10
              have hS : w11.cell? ⟨w.heap.size + 1, 1, none⟩ = some (.slice (some ⟨gR, 0, none⟩) (rs.length + 1) cap7) ∧ w11.cell? ⟨gR, rs.length, none⟩ = some (.slice none 0 0) := hS11
              have HF : Hid (Inv w (w11.setCell ⟨gR, rs.length, none⟩ (.slice a11 (0 + 1) cap11)) w.heap.size (w.heap.size + 1) b3 base (some ⟨ba, off, none⟩) k c od (L ++ [v]) a5 cap5 (rs ++ [.slice a11 (0 + 1) cap11]) (some ⟨gR, 0, none⟩) cap7 ∧ Last (w11.setCell ⟨gR, rs.length, none⟩ (.slice a11 (0 + 1) cap11)) base a5 (L ++ [v]).length cap5 rs (rs ++ [.slice a11 (0 + 1) cap11]) a11 (0 + 1) cap11 ([] ++ [.int .i64 (x : Int)])) := hfin
              clear hfin hS11
              refine HeldBut.step 25 rfl (by kernel_rfl) (fun K hK => ?_)
              go_simp
              refine hK _ _ (fun _ => hS) ?_
              clear hK K
              have hcl11 := hS.2
              clear hS
              refine HeldBut.step 26 rfl (by kernel_rfl) (fun K hK => ?_)
              go_simp
              refine hK _ _ (fun h => absurd rfl h) ?_
              clear hK K hcl11 hfr11
              refine HeldBut.done (by kernel_rfl) ?_ _
              clear r0 r1 r2
              go_wp2
              go_roundw
              case rel =>
                refine ⟨j + 1, by omega, by go_num, ?_⟩
                rw [HD.out]
                exact ⟨a5, cap5, rs ++ [.slice a11 (0 + 1) cap11], some ⟨gR, 0, none⟩, cap7, HF.out.1, by have := HRL.out; simp at this ⊢; omega, fun _ => ⟨rs, a11, 0 + 1, cap11, _, HF.out.2, by omega⟩⟩
              case measure => simp [intOf]; omega
        · obtain rfl : j = k := by omega
          have hfin : ∃ bw aL' cL' L', (⟨w.heap.size + 1, 0, none⟩ : Addr) = ⟨bw, 0, none⟩ ∧ wr.cell? ⟨bw, 0, none⟩ = some (.slice aL' (List.length L') cL') ∧ Elems .i64 wr aL' L'.length L' ∧ (∀ i j : Nat, i ≤ j → j < L'.length → L'[i]?.getD 0 ≤ L'[j]?.getD 0) ∧ (∀ v, v ∈ L' ↔ v ∈ ms) ∧ L'.length ≤ 1024 ∧ Below w.heap.size w wr := by
            have hvl := HVL.out
            have hso := dd_sorted vs HVS.out
            have hsa := dd_same vs
            rw [hvl] at hso hsa
            obtain ⟨a', cap', e, hE', _, _⟩ := elems_of_owns hI.ownL
            simp only [Value.slice.injEq, true_and] at e
            obtain ⟨rfl, rfl⟩ := e
            have hle := dd_length_le vs j
            exact ⟨w.heap.size + 1, aL, cL, dd vs j, rfl, hI.cellL, hE', hso, fun v => (hsa v).trans (HVM.out v), by omega, hI.bel⟩
          have HFIN : Hid (∃ bw aL' cL' L', (⟨w.heap.size + 1, 0, none⟩ : Addr) = ⟨bw, 0, none⟩ ∧ wr.cell? ⟨bw, 0, none⟩ = some (.slice aL' (List.length L') cL') ∧ Elems .i64 wr aL' L'.length L' ∧ (∀ i j : Nat, i ≤ j → j < L'.length → L'[i]?.getD 0 ≤ L'[j]?.getD 0) ∧ (∀ v, v ∈ L' ↔ v ∈ ms) ∧ L'.length ≤ 1024 ∧ Below w.heap.size w wr) := hfin
          clear hI hrl hLast hfin
          go_wp2
          go_ret
          obtain ⟨bw, aL', cL', L', e1, e2, e3, e4, e5, e6, e7⟩ := HFIN.out
          simp only [Addr.mk.injEq, and_true] at e1
          subst e1
          exact ⟨w.heap.size + 1, aL', cL', L', rfl, e2, e3, e4, e5, e6, e7⟩
end Go.Proofs.Ybulkbvao
