/-
  THE SHELL OF A PROOF OF 'Rows.LawS3588BDigitsSaid' ('example.com/implicast/implicast/internal/temporal.LawS3588BDigits'), WRITTEN BY PROGRAM (proof-skeleton.mjs, third state) off the guide's own print for that function. 
  THE HOLE IS FILLED. ALL ELSE IS THE GUIDE's OWN WAY (howto/template/XProofs.lean; Derived/Test/ChunkProofs.lean for 'Below') at this function's number and types: leave it.
-/
import Derived.Test.YbulkbvhaRows
import Derived.WalkKit
import Derived.ProofKit
import Derived.OpenShut
import Derived.ShutString
import Derived.ChangeOld
import Derived.Below
import Derived.Test.YbulkbvhaDigitsLaw
namespace Go.Proofs.Ybulkbvha.lawS3588BDigits
open Go.ChangeShapes Go.WideShapes Go.ChangeAt Go.RowKit
open Go.ChangeMaps (open_string shut_string)
set_option linter.unusedVariables false

theorem own : ownKnob Yba.prog.godebug = none := by kernel_rfl
theorem laidOut : laidOutB Yba.prog = true := by kernel_rfl

/-- WHAT THE WALK IS TOLD OF A SLICE OF INTEGERS THAT CAME IN: it is nil; or it leads to a row of 'cap' cells, the numbers 'zs' (the first 'len' are its elements, the rest its spare room), each fitting its kind. -/
def IsRow (k : IntKind) (w : World) (a : Option Addr) (len cap : Nat) (zs : List Int) : Prop :=
  (a = none ∧ len = 0 ∧ cap = 0 ∧ zs = []) ∨
  ∃ x, a = some x ∧ len ≤ cap ∧ cap ≤ maxLen ∧ zs.length = cap ∧ (∀ i, i < zs.length → w.cell? (x.add i) = some (.int k (zs.getD i 0))) ∧ ∀ n ∈ zs, (Lit.int k n).wf = true

/-! ### THE PLAIN LAW -/
theorem elems {w : World} {a : Option Addr} {len cap : Nat} {zs : List Int} (h : IsRow .u8 w a len cap zs) : Elems .u8 w a len (zs.take len) := by
  rcases h with ⟨rfl, rfl, rfl, rfl⟩ | ⟨x, rfl, hl, _, hz, hc, _⟩
  · exact ⟨rfl, fun h => absurd h (by omega)⟩
  · refine ⟨by simp; omega, fun h0 => ?_⟩
    obtain ⟨b, off, rfl, hc'⟩ := ints_at hc (by omega)
    refine ⟨b, off, rfl, World.block_lt_of_cell? w _ (hc' 0 (by omega)), fun i hi => ?_⟩
    rw [hc' i (by omega), List.getElem?_take, if_pos hi]
    simp
theorem bounds {w : World} {a : Option Addr} {len cap : Nat} {zs : List Int} (h : IsRow .u8 w a len cap zs) (j : Nat) : 0 ≤ (zs.take len)[j]?.getD 0 ∧ (zs.take len)[j]?.getD 0 ≤ 255 := by
  rcases h with ⟨rfl, rfl, rfl, rfl⟩ | ⟨x, rfl, hl, _, hz, hc, hw⟩
  · simp
  · exact range_u8 (fun n hn => hw n (List.mem_of_mem_take hn)) j

/-! ### STEP 1: THE WALK: the Go text returns true, AND WRITES NOTHING THAT WAS THERE: 'Below w.heap.size w w'' (Derived/Below.lean: '.refl', '.alloc', '.drew', '.setCell' at a new block, '.trans'). Open each 'IsRow' by 'rcases' AHEAD of 'go_enter'; part every test ahead of the walk. -/
theorem walk (a0 : Option Addr) (len0 cap0 : Nat) (z0 : List Int) (w : World) (w0 : IsRow .u8 w a0 len0 cap0 z0) :
    Calls Yba.prog 3 #[.slice a0 len0 cap0] w fun e w' => e = .returned (.bool true) ∧ Below w.heap.size w w' := by
  have hE := elems w0
  have hz := bounds w0
  clear w0
  generalize z0.take len0 = zs at hE hz
  by_cases hbig : 1024 < len0
  · go_enter Yba.func3, Yba.ntmps3
    go_wp2
    go_ret
    exact ⟨rfl, Below.refl _ _⟩
  · have hd := digits_any a0 len0 cap0 zs w (by omega) hz hE
    obtain ⟨hlen, hE⟩ := hE
    go_enter Yba.func3, Yba.ntmps3
    go_wp2_with (go_at_call 5; refine hd.mono ?_; rintro e w1 ⟨rfl, hB⟩)
    clear hd
    go_loop [4, 5] (fun n i => ∃ k : Nat, k ≤ 6 ∧ i = .int .i64 k ∧ n = .int .i64 (F zs k)) (fun _ i => 6 - (intOf i).toNat)
    case atStart => exact ⟨0, Nat.zero_le _, rfl, rfl⟩
    case round =>
      obtain ⟨k, hk, rfl, rfl⟩ := hrel
      have hd := F_le zs hz k hk
      by_cases hlt : k < 6
      · by_cases hin : k < len0
        · obtain ⟨b, off, rfl, hb, hc⟩ := hE (by omega)
          have hcx : w1.cell? ⟨b, off + k, none⟩ = some (.int .u8 (zs[k]?.getD 0)) := (hB.cell (p := ⟨b, off + k, none⟩) hb).trans (hc k hin)
          have hzk := hz k
          have HS : Hid _ := F_in zs k (by omega)
          generalize zs[k]?.getD 0 = z at hcx hzk HS
          clear hz hc hE
          go_wp2
          go_round
          case rel => exact ⟨k + 1, by omega, by go_num, by rw [HS.out]⟩
          case measure => simp [intOf]; omega
        · have HS : Hid _ := F_out zs k (by omega) (by omega)
          clear hz hE
          go_wp2
          go_round
          case rel => exact ⟨k + 1, by omega, by go_num, by rw [HS.out]⟩
          case measure => simp [intOf]; omega
      · obtain rfl : k = 6 := by omega
        have hm := micros_any (strOfNums (zs.map dnum)) w1 (by rw [strOfNums_size]; simp; omega)
        rw [micro_S] at hm
        generalize strOfNums (zs.map dnum) = s at hm ⊢
        by_cases h6 : 6 < len0
        · obtain ⟨b, off, rfl, hb, hc⟩ := hE (by omega)
          have hcx : w1.cell? ⟨b, off + 6, none⟩ = some (.int .u8 (zs[6]?.getD 0)) := (hB.cell (p := ⟨b, off + 6, none⟩) hb).trans (hc 6 h6)
          have hzk := hz 6
          have hu := up6_in zs (by omega)
          rw [hu] at hm
          generalize zs[6]?.getD 0 = z at hcx hzk hm
          generalize F zs 6 = G at hm hd ⊢
          clear hz hc hE hu
          by_cases h5 : 5 ≤ z % 10
          · rw [if_pos h5] at hm
            have hle : decide (G + 1 ≤ 1000000) = true := decide_eq_true (by omega)
            go_wp2_with (go_at_call 6; refine hm.mono ?_; rintro e w' ⟨rfl, rfl⟩)
            go_ret
            exact ⟨rfl, hB⟩
          · rw [if_neg h5, Int.add_zero] at hm
            have hle : decide (G ≤ 1000000) = true := decide_eq_true (by omega)
            go_wp2_with (go_at_call 6; refine hm.mono ?_; rintro e w' ⟨rfl, rfl⟩)
            go_ret
            exact ⟨rfl, hB⟩
        · have hu := up6_out zs (by omega)
          rw [hu, Int.add_zero] at hm
          generalize F zs 6 = G at hm hd ⊢
          clear hz hE hu
          have hle : decide (G ≤ 1000000) = true := decide_eq_true (by omega)
          go_wp2_with (go_at_call 6; refine hm.mono ?_; rintro e w' ⟨rfl, rfl⟩)
          go_ret
          exact ⟨rfl, hB⟩

/-! ### THE ROW's STEP: WRITTEN OUT: LEAVE IT -/
set_option maxRecDepth 100000 in
theorem lifted (os : Os) (started : os.Started) (H : Type) (enc : TypeId × Value → H) :
    ReturnsInHanded {} Yba.checked os 3 .any (Rows.lawS3588BDigitsSpec.pre6 enc Yba.prog Yba.f3 Rows.lawS3588BDigitsRow.domain false) (Rows.lawS3588BDigitsSpec.post enc Yba.prog Yba.f3 false true false false) := by
  refine returnsInHanded_of_change (C := Yba.checked) own started (by kernel_rfl) Yba.func3
    (ChangeSpec.witness6 (enc := enc) (C := Yba.checked) false ⟨#[], #[.slice none 0 0], []⟩ 8 (by kernel_rfl) (by kernel_rfl) (by kernel_rfl) (by kernel_rfl)) ?_
  intro W base args ds gs before hval0 hW hcnd _
  have hval : ∀ (j : Nat) t v, Yba.f3.params[j]? = some t → args[j]? = some v → Value.okWide Yba.prog W .any base t v := hval0
  have hW' := hW
  obtain ⟨p, q, hA0, hV, rfl, hfz, hnd⟩ := hW
  have hA : DataW.TrodAll enc Yba.prog W 0 (fun _ => true) true Yba.f3.params.toList args.toList ds p := hA0
  rw [Yba.params3] at hA hval
  obtain ⟨v0, vs0, d0, ds0, p0, q0, hargs, rfl, rfl, h0, r0⟩ := trodAll_cons hA
  obtain ⟨rfl, rfl, rfl⟩ := trodAll_nil r0
  obtain rfl : args = #[v0] := by cases args; simp_all
  obtain ⟨rfl, rfl⟩ := trodVars_none hV
  obtain ⟨a0, len0, cap0, rfl⟩ := okWide_slice Yba.underlying22 (hval 0 22 v0 rfl rfl)
  have k0 := h0
  have lt0 : ∀ x ∈ p0, x.block < W.heap.size := by obtain ⟨m, hm⟩ := k0; exact DataW.trod_lt m _ _ _ hm
  obtain ⟨z0, w0⟩ : ∃ zs, IsRow .u8 W a0 len0 cap0 zs := by
    obtain ⟨fuel, hf⟩ := h0
    rcases open_ints Yba.underlying22 Yba.underlying5 (by kernel_rfl) hf with ⟨hcs, _⟩ | ⟨x, l, c, zs, hcs, _, hl, hm, hz, _, hcell, hwz⟩
    · simp [Value.cells] at hcs
      obtain ⟨rfl, rfl, rfl⟩ := hcs
      exact ⟨[], .inl ⟨rfl, rfl, rfl, rfl⟩⟩
    · simp [Value.cells] at hcs
      obtain ⟨rfl, rfl, rfl⟩ := hcs
      exact ⟨zs, .inr ⟨_, rfl, hl, hm, by simpa using hz, hcell, hwz⟩⟩
  clear hA0 hval0
  refine (walk a0 len0 cap0 z0 W w0).mono fun e W' ⟨he, bel⟩ => ?_
  subst he
  exact ⟨_, rfl, _, _, _, [], _, [], hW', trodAll_mk1 (shut_bool Yba.underlying4 _), (trodAll_cons_mk (Below.trod laidOut (by kernel_rfl) (of_decide_eq_true (by kernel_rfl)) k0 bel lt0) trodAll_mk0), rfl, bel.frame _, fun h => by cases h⟩

theorem over : Rows.lawS3588BDigitsRow.holds Yba.pinned (OpenSpec.ofChange Rows.lawS3588BDigitsSpec) :=
  OpenClaim.holds_of_wide 3 Yba.f3 rfl rfl rfl rfl rfl rfl rfl ⟨rfl, rfl, rfl, rfl, rfl⟩ rfl rfl rfl rfl rfl (by kernel_rfl) Yba.func3 (by kernel_rfl)
    (of_decide_eq_true (by kernel_rfl)) (by unfold Func.isWrapper; first | (rw [if_pos (by decide +kernel)]; kernel_rfl) | (rw [if_neg (by decide +kernel)]; exact ⟨rfl, rfl⟩))
    (fun os started H enc _ => lifted os started H enc)

/-- ████ THE STATEMENT ████ -/
theorem proved : Rows.LawS3588BDigitsSaid := over
end Go.Proofs.Ybulkbvha.lawS3588BDigits
