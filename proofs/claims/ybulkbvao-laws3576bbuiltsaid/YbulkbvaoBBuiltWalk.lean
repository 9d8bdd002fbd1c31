/-
  The walk of 'LawS3576BBuilt'.
-/
import Derived.Test.YbulkbvaoWaitlist
namespace Go.Proofs.Ybulkbvao
open Go.RowKit
theorem ebelow {k : IntKind} {w w' : World} {a : Option Addr} {n : Nat} {zs : List Int} (h : Elems k w a n zs) (hb : Below w.heap.size w w') : Elems k w' a n zs :=
  ⟨h.1, fun h0 => by
    obtain ⟨b, off, e, hlt, hc⟩ := h.2 h0
    exact ⟨b, off, e, by have := hb.size; omega, fun i hi => (hb.cell (p := ⟨b, off + i, none⟩) hlt).trans (hc i hi)⟩⟩
theorem bdraw {B : Nat} {a w : World} (h : Below B a w) (n : Nat) : Below B a (w.drewN n) := ⟨h.os, h.tape, h.output, h.size, h.block⟩

set_option maxHeartbeats 1000000 in
set_option maxRecDepth 100000 in
theorem waitlist_none (a : Option Addr) (c : Nat) (w : World) :
    Calls Yba.prog 13 #[.slice a 0 c] w fun e w' => ∃ bw, e = .returned (.pointer (some ⟨bw, 0, none⟩)) ∧ w'.cell? ⟨bw, 0, none⟩ = some (.slice none 0 0) ∧ Below w.heap.size w w' := by
  have hsn := fun p cap fv w => Yba.slices_SortFunc_none (α := Nat) p cap fv w
  go_enter Yba.func13, Yba.ntmps13
  go_wp2_with (at_make; refine wpList_make_row _ rfl _ _ 28 rfl 3 .i64 8 Yba.underlying28 Yba.info3 .i64 .i64 _ _ 0 rfl rfl rfl rfl (by omega) (by unfold maxLen; omega) ?_)
  intro w1 hR1 hB1 hS1
  have hcell : w1.cell? ⟨w.heap.size + 1, 0, none⟩ = some (.slice none 0 0) := by
    rw [hB1.cell (p := ⟨w.heap.size + 1, 0, none⟩) (by simp)]; simp
  have hbel : Below w.heap.size w w1 := (((Below.refl _ _).alloc (Nat.le_refl _) _).alloc (by simp) _).trans (hB1.mono (by omega))
  have HC : Hid (w1.cell? ⟨w.heap.size + 1, 0, none⟩ = some (.slice none 0 0)) := hcell
  clear hR1 hB1 hS1 hcell
  go_wp2
  refine wp_loop_rounds 1 ?_
  rw [rounds_succ]
  go_wp2_with (go_at_call 17; refine (hsn _ _ _ _).mono ?_; rintro e w2 ⟨rfl, rfl⟩)
  refine wp_loop_rounds 1 ?_
  rw [rounds_succ]
  go_wp2
  go_ret
  exact ⟨w.heap.size + 1, rfl, HC.out, hbel⟩

set_option maxHeartbeats 2000000 in
set_option maxRecDepth 100000 in
theorem bbuilt_some (a : Addr) (n c : Nat) (zs : List Int) (q pick : Int) (use : Bool) (w : World) (h0 : 0 < n) (hn : n ≤ 1024) (hp : 0 ≤ pick ∧ pick ≤ 65535) (hE : Elems .i64 w (some a) n zs) :
    Calls Yba.prog 5 #[.slice (some a) n c, .int .i64 q, .int .u16 pick, .bool use] w fun e w' => e = .returned (.bool true) ∧ Below w.heap.size w w' := by
  have hcl := clone_any a n c zs w (by omega) hE
  have HE : Hid (Elems .i64 w (some a) n zs) := hE
  have hz : zs.length = n := hE.1
  have HZ : Hid (zs.length = n) := hz
  clear hE hz
  obtain ⟨m, hm⟩ : ∃ m, n = m + 1 := ⟨n - 1, by omega⟩
  have HN : Hid (n = m + 1) := hm
  clear hm
  have after : ∀ (w2 : World) (a2 : Option Addr) (cap2 : Nat), Elems .i64 w2 a2 n zs → Below w.heap.size w w2 → ∀ b2 o2, a2 = some ⟨b2, o2, none⟩ → Calls Yba.prog 13 #[.slice a2 n cap2] w2 fun e w' => ∃ bw aL cL L, e = .returned (.pointer (some ⟨bw, 0, none⟩)) ∧ w'.cell? ⟨bw, 0, none⟩ = some (.slice aL (List.length L) cL) ∧
      Elems .i64 w' aL L.length L ∧ (∀ i j : Nat, i ≤ j → j < L.length → L[i]?.getD 0 ≤ L[j]?.getD 0) ∧ (∀ v, v ∈ L ↔ v ∈ zs) ∧ L.length ≤ 1024 ∧ Below w2.heap.size w2 w' := by
    intro w2 a2 cap2 hE2 _ b2 o2 e2
    subst e2
    have := HN.out
    subst this
    exact waitlist_any b2 o2 m cap2 zs w2 (by omega) hE2
  cases use with
  | false =>
    go_enter Yba.func5, Yba.ntmps5
    go_wp2_with (go_at_call 9; refine hcl.mono ?_)
    rintro e w2 ⟨a2, cap2, rfl, hE2, hnn, hB2⟩
    obtain ⟨b2, o2, e2, _, _⟩ := hE2.2 h0
    have hw := after w2 a2 cap2 hE2 hB2 b2 o2 e2
    have HE2 : Hid (Elems .i64 w2 a2 n zs) := hE2
    have HB2 : Hid (Below w.heap.size w w2) := hB2
    clear hcl hE2 hB2 hnn e2 after
    go_wp2_with (go_at_call 13; refine hw.mono ?_)
    rintro e w3 ⟨bw, aL, cL, L, rfl, hcell, hEL, hso, hmem, hle, hB3⟩
    have HEL : Hid (Elems .i64 w3 aL L.length L) := hEL
    have HSO : Hid (∀ i j : Nat, i ≤ j → j < L.length → L[i]?.getD 0 ≤ L[j]?.getD 0) := hso
    have HM : Hid (∀ v, v ∈ L ↔ v ∈ zs) := hmem
    have HE3 : Hid (Elems .i64 w3 (some a) n zs) := ebelow (ebelow HE.out HB2.out) hB3
    have HE3' : Hid (Elems .i64 w3 a2 n zs) := ebelow HE2.out hB3
    have HB3 : Hid (Below w.heap.size w w3) := HB2.out.trans (hB3.mono HB2.out.size)
    clear hEL hso hmem hB3 hw
    go_wp2_with (go_at_call 10; refine (atMost_any bw aL L.length cL L _ _ (by omega) HSO.out HEL.out hcell).mono ?_)
    rintro e w4 ⟨⟨r, hr, rfl⟩, rfl⟩
    have HR : Hid (IsBest _ L r) := hr
    clear hr
    go_wp2_with (go_at_call 11; refine (model_any (some a) n c zs _ _ (by omega) (HE3.out)).mono ?_)
    rintro e w5 ⟨⟨r', hr', rfl⟩, rfl⟩
    obtain rfl : r' = r := hr'.unique HR.out (fun v => (HM.out v).symm)
    clear hr'
    go_wp2_with (go_at_call 12; refine (equal_any a2 (some a) n cap2 c zs _ (by omega) HE3'.out HE3.out).mono ?_)
    rintro e w6 ⟨rfl, nq, rfl⟩
    go_wp2
    go_ret
    exact ⟨rfl, bdraw HB3.out nq⟩
  | true =>
    obtain ⟨i, hi⟩ := Int.eq_ofNat_of_zero_le (show 0 ≤ pick % (n : Int) from Int.emod_nonneg _ (by omega))
    have hik : i < n := by have := Int.emod_lt_of_pos pick (show (0 : Int) < (n : Int) by omega); omega
    go_enter Yba.func5, Yba.ntmps5
    go_wp2_with (go_at_call 9; refine hcl.mono ?_)
    rintro e w2 ⟨a2, cap2, rfl, hE2, hnn, hB2⟩
    obtain ⟨b2, o2, e2, _, hc2⟩ := hE2.2 h0
    have hw := after w2 a2 cap2 hE2 hB2 b2 o2 e2
    have hcx := hc2 i hik
    generalize zs[i]?.getD 0 = y at hcx
    have HE2 : Hid (Elems .i64 w2 a2 n zs) := hE2
    have HB2 : Hid (Below w.heap.size w w2) := hB2
    subst e2
    clear hcl hE2 hB2 hnn after hc2
    go_wp2_with (go_at_call 13; refine hw.mono ?_)
    rintro e w3 ⟨bw, aL, cL, L, rfl, hcell, hEL, hso, hmem, hle, hB3⟩
    have HEL : Hid (Elems .i64 w3 aL L.length L) := hEL
    have HSO : Hid (∀ i j : Nat, i ≤ j → j < L.length → L[i]?.getD 0 ≤ L[j]?.getD 0) := hso
    have HM : Hid (∀ v, v ∈ L ↔ v ∈ zs) := hmem
    have HE3 : Hid (Elems .i64 w3 (some a) n zs) := ebelow (ebelow HE.out HB2.out) hB3
    have HE3' : Hid (Elems .i64 w3 (some ⟨b2, o2, none⟩) n zs) := ebelow HE2.out hB3
    have HB3 : Hid (Below w.heap.size w w3) := HB2.out.trans (hB3.mono HB2.out.size)
    clear hEL hso hmem hB3 hw hcx
    go_wp2_with (go_at_call 10; refine (atMost_any bw aL L.length cL L _ _ (by omega) HSO.out HEL.out hcell).mono ?_)
    rintro e w4 ⟨⟨r, hr, rfl⟩, rfl⟩
    have HR : Hid (IsBest _ L r) := hr
    clear hr
    go_wp2_with (go_at_call 11; refine (model_any (some a) n c zs _ _ (by omega) (HE3.out)).mono ?_)
    rintro e w5 ⟨⟨r', hr', rfl⟩, rfl⟩
    obtain rfl : r' = r := hr'.unique HR.out (fun v => (HM.out v).symm)
    clear hr'
    go_wp2_with (go_at_call 12; refine (equal_any (some ⟨b2, o2, none⟩) (some a) n cap2 c zs _ (by omega) HE3'.out HE3.out).mono ?_)
    rintro e w6 ⟨rfl, nq, rfl⟩
    go_wp2
    go_ret
    exact ⟨rfl, bdraw HB3.out nq⟩

theorem nil_sorted (i j : Nat) (_ : i ≤ j) (hj : j < ([] : List Int).length) : ([] : List Int)[i]?.getD 0 ≤ ([] : List Int)[j]?.getD 0 := absurd hj (by simp)
theorem elems_nil (w : World) (a : Option Addr) : Elems .i64 w a 0 [] := ⟨rfl, fun h => absurd h (by omega)⟩

set_option maxHeartbeats 2000000 in
set_option maxRecDepth 100000 in
theorem bbuilt_none (a : Option Addr) (c : Nat) (q pick : Int) (use : Bool) (w : World) :
    Calls Yba.prog 5 #[.slice a 0 c, .int .i64 q, .int .u16 pick, .bool use] w fun e w' => e = .returned (.bool true) ∧ Below w.heap.size w w' := by
  have hcl : Calls Yba.prog 9 #[.slice a 0 c] w fun e w' => ∃ a2 cap2, e = .returned (.slice a2 0 cap2) ∧ Below w.heap.size w w' := by
    cases a with
    | none => exact (clone_nil 0 c w).mono fun e w' ⟨h1, h2⟩ => ⟨none, 0, h1, by rw [h2]; exact Below.refl _ _⟩
    | some ad => exact (clone_any ad 0 c [] w (by omega) (elems_nil w _)).mono fun e w' ⟨a2, cap2, h1, _, _, h2⟩ => ⟨a2, cap2, h1, h2⟩
  cases use
  all_goals
    go_enter Yba.func5, Yba.ntmps5
    go_wp2_with (go_at_call 9; refine hcl.mono ?_)
    rintro e w2 ⟨a2, cap2, rfl, hB2⟩
    have HB2 : Hid (Below w.heap.size w w2) := hB2
    clear hcl hB2
    go_wp2_with (go_at_call 13; refine (waitlist_none _ _ _).mono ?_)
    rintro e w3 ⟨bw, rfl, hcell, hB3⟩
    have HB3 : Hid (Below w.heap.size w w3) := HB2.out.trans (hB3.mono HB2.out.size)
    clear hB3
    go_wp2_with (go_at_call 10; refine (atMost_any bw none 0 0 [] _ _ (by omega) nil_sorted (elems_nil _ _) hcell).mono ?_)
    rintro e w4 ⟨⟨r, hr, rfl⟩, rfl⟩
    have HR : Hid (IsBest _ [] r) := hr
    clear hr
    go_wp2_with (go_at_call 11; refine (model_any a 0 c [] _ _ (by omega) (elems_nil _ _)).mono ?_)
    rintro e w5 ⟨⟨r', hr', rfl⟩, rfl⟩
    obtain rfl : r' = r := hr'.unique HR.out (fun v => Iff.rfl)
    clear hr'
    go_wp2_with (go_at_call 12; refine (equal_any a2 a 0 cap2 c [] _ (by omega) (elems_nil _ _) (elems_nil _ _)).mono ?_)
    rintro e w6 ⟨rfl, nq, rfl⟩
    go_wp2
    go_ret
    exact ⟨rfl, bdraw HB3.out nq⟩
end Go.Proofs.Ybulkbvao
