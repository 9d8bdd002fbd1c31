/-
  THE SHELL OF A PROOF OF 'Rows.LawS3588BAnyBytesSaid' ('example.com/implicast/implicast/internal/temporal.LawS3588BAnyBytes'), WRITTEN BY PROGRAM (proof-skeleton.mjs) off the guide's own print for that function. 
  THE HOLES (each is filled). ALL ELSE IS THE GUIDE's TEMPLATE (howto/template/XProofs.lean) at this function's number and types: leave it.
-/
import Derived.Test.YbulkbvhaRows
import Derived.WalkKit
import Derived.ProofKit
import Derived.OpenShut
import Derived.ShutString
import Derived.Test.YbulkbvhaMicros
namespace Go.Proofs.Ybulkbvha.lawS3588BAnyBytes
open Go.ChangeShapes Go.WideShapes Go.ChangeAt Go.RowKit
open Go.ChangeMaps (open_string shut_string)
set_option linter.unusedVariables false      -- a walk need not use every 'w<i>' (that an integer argument fits its kind)

theorem own : ownKnob Yba.prog.godebug = none := by kernel_rfl

theorem pad_over (l : List UInt8) (k : Nat) (h : l.length ≤ k) (h2 : k < l.length + 7) : (pad l)[k]'(by simp [pad]; omega) = 48 := by
  unfold pad
  rw [List.getElem_append_right h]
  obtain ⟨j, rfl⟩ : ∃ j, k = l.length + j := ⟨k - l.length, by omega⟩
  simp only [Nat.add_sub_cancel_left]
  have : j < 7 := by omega
  match j, this with
  | 0, _ | 1, _ | 2, _ | 3, _ | 4, _ | 5, _ | 6, _ => rfl

/-! ### STEP 1: THE WALK: the Go text returns true. 'Grown w w'': the world has at most new blocks (Derived/RowKit3.lean). Part the cases AHEAD of 'go_enter' where a test parts the walk; take each callee by a contract of your own. -/
theorem walk (a0 : ByteArray) (w0 : a0.size ≤ maxLen) (w : World) :
    Calls Yba.prog 4 #[.string a0] w fun e w' => e = .returned (.bool true) ∧ Grown w w' := by
  by_cases hbig : 4096 < a0.size
  · go_enter Yba.func4, Yba.ntmps4
    go_wp2
    go_ret
    exact ⟨rfl, Grown.refl _⟩
  · have hsz : a0.size ≤ 4096 := by omega
    go_enter Yba.func4, Yba.ntmps4
    go_wp2
    go_loop [3, 4] (fun n i => ∃ k : Nat, k ≤ 6 ∧ i = .int .i64 k ∧ n = .int .i64 (fold ((pad a0.data.toList).take k))) (fun _ i => 6 - (intOf i).toNat)
    case atStart => exact ⟨0, Nat.zero_le _, rfl, rfl⟩
    case round =>
      obtain ⟨k, hk, rfl, rfl⟩ := hrel
      have hd := fold_le6 ((pad a0.data.toList).take k) (by simp; omega)
      by_cases hlt : k < 6
      · by_cases hin : k < a0.size
        · have HS : Hid (fold ((pad a0.data.toList).take (k + 1)) = fold ((pad a0.data.toList).take k) * 10 + ((a0[k].toNat : Int) - 48) % 256) := by
            rw [List.take_succ_eq_append_getElem (by simp [pad]; omega), fold_snoc]
            have e : (pad a0.data.toList)[k]'(by simp [pad]; omega) = a0[k] := by
              unfold pad
              rw [List.getElem_append_left (by simpa using hin)]; rfl
            rw [e]; rfl
          go_wp2
          go_round
          case rel => exact ⟨k + 1, by omega, by go_num, by rw [HS.out]⟩
          case measure => simp [intOf]; omega
        · have HS : Hid (fold ((pad a0.data.toList).take (k + 1)) = fold ((pad a0.data.toList).take k) * 10) := by
            show fold ((pad a0.data.toList).take (k + 1)) = fold ((pad a0.data.toList).take k) * 10
            rw [List.take_succ_eq_append_getElem (by simp [pad]; omega), fold_snoc]
            have e : (pad a0.data.toList)[k]'(by simp [pad]; omega) = 48 := pad_over _ _ (by simpa using hin) (by omega)
            rw [e, show dg 48 = 0 from by decide, Int.add_zero]
          go_wp2
          go_round
          case rel => exact ⟨k + 1, by omega, by go_num, by rw [HS.out]⟩
          case measure => simp [intOf]; omega
      · obtain rfl : k = 6 := by omega
        have hm := micros_any a0 w hsz
        unfold micro at hm
        generalize fold ((pad a0.data.toList).take 6) = F at hm hd ⊢
        by_cases h6 : 6 < a0.size
        · have e6 : (pad a0.data.toList).getD 6 0 = a0[6] := by
            unfold pad
            rw [List.getD_eq_getElem?_getD, List.getElem?_append_left (by simpa using h6), List.getElem?_eq_getElem (by simpa using h6)]; rfl
          rw [e6] at hm
          clear e6
          by_cases hu : 53 ≤ (a0[6].toNat : Int)
          · rw [up_yes hu] at hm
            go_wp2_with (go_at_call 6; refine hm.mono ?_; rintro e w' ⟨rfl, rfl⟩)
            go_ret
            exact ⟨rfl, Grown.refl _⟩
          · rw [up_no (by omega), Int.add_zero] at hm
            go_wp2_with (go_at_call 6; refine hm.mono ?_; rintro e w' ⟨rfl, rfl⟩)
            go_ret
            exact ⟨rfl, Grown.refl _⟩
        · have e6 : (pad a0.data.toList).getD 6 0 = 48 := by
            rw [List.getD_eq_getElem?_getD, List.getElem?_eq_getElem (by simp [pad]), pad_over _ _ (by simpa using h6) (by omega)]; rfl
          rw [e6, up_no (by decide), Int.add_zero] at hm
          clear e6
          go_wp2_with (go_at_call 6; refine hm.mono ?_; rintro e w' ⟨rfl, rfl⟩)
          go_ret
          exact ⟨rfl, Grown.refl _⟩

/-! ### THE ROW's STEP: WRITTEN OUT: LEAVE IT -/
set_option maxRecDepth 100000 in
theorem lifted (os : Os) (started : os.Started) (H : Type) (enc : TypeId × Value → H) :
    ReturnsInHanded {} Yba.checked os 4 .any (Rows.lawS3588BAnyBytesSpec.pre6 enc Yba.prog Yba.f4 Rows.lawS3588BAnyBytesRow.domain false) (Rows.lawS3588BAnyBytesSpec.post enc Yba.prog Yba.f4 false true false false) := by
  refine returnsInHanded_of_change (C := Yba.checked) own started (by kernel_rfl) Yba.func4
    (ChangeSpec.witness6 (enc := enc) (C := Yba.checked) false ⟨#[], #[.string ByteArray.empty], []⟩ 8 (by kernel_rfl) (by kernel_rfl) (by kernel_rfl) (by kernel_rfl)) ?_
  intro W base args ds gs before hval0 hW hcnd _
  have hval : ∀ (j : Nat) t v, Yba.f4.params[j]? = some t → args[j]? = some v → Value.okWide Yba.prog W .any base t v := hval0
  have hW' := hW
  obtain ⟨p, q, hA0, hV, rfl, hfz, hnd⟩ := hW
  have hA : DataW.TrodAll enc Yba.prog W 0 (fun _ => true) true Yba.f4.params.toList args.toList ds p := hA0
  rw [Yba.params4] at hA hval
  obtain ⟨v0, vs0, d0, ds0, p0, q0, hargs, rfl, rfl, h0, r0⟩ := trodAll_cons hA
  obtain ⟨rfl, rfl, rfl⟩ := trodAll_nil r0
  obtain rfl : args = #[v0] := by cases args; simp_all
  obtain ⟨rfl, rfl⟩ := trodVars_none hV
  obtain ⟨a0, rfl, rfl, rfl, w0⟩ := open_string Yba.underlying9 (hval 0 9 v0 rfl rfl) h0
  clear hA0 hval0
  simp only [List.append_nil] at hW'
  refine (walk a0 w0 W).mono fun e W' ⟨he, hg⟩ => ?_
  subst he
  exact ⟨_, rfl, post_of_same (pa := []) (pv := []) hW' (fun _ _ _ => (trodAll_cons_mk (shut_bool Yba.underlying4 _) trodAll_mk0)) (fun sp _ => (trodAll_cons_mk (shut_string Yba.underlying9 w0) trodAll_mk0)) (fun _ _ => rfl) rfl
    (hg.frame _) hg.2.1 (ok_one (by kernel_rfl) rfl (okWide_bool_mk Yba.underlying4 _))⟩

theorem over : Rows.lawS3588BAnyBytesRow.holds Yba.pinned (OpenSpec.ofChange Rows.lawS3588BAnyBytesSpec) :=
  OpenClaim.holds_of_wide 4 Yba.f4 rfl rfl rfl rfl rfl rfl rfl ⟨rfl, rfl, rfl, rfl, rfl⟩ rfl rfl rfl rfl rfl (by kernel_rfl) Yba.func4 (by kernel_rfl)
    (of_decide_eq_true (by kernel_rfl)) (by unfold Func.isWrapper; first | (rw [if_pos (by decide +kernel)]; kernel_rfl) | (rw [if_neg (by decide +kernel)]; exact ⟨rfl, rfl⟩))
    (fun os started H enc _ => lifted os started H enc)

/-- ████ THE STATEMENT ████ -/
theorem proved : Rows.LawS3588BAnyBytesSaid :=
  over
end Go.Proofs.Ybulkbvha.lawS3588BAnyBytes
