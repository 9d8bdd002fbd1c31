/-
  THE SHELL OF A PROOF OF 'Rows.LawS3576AShapeSaid' ('example.com/isoline/isoline/generate.LawS3576AShape'), WRITTEN BY PROGRAM (proof-skeleton.mjs) off the guide's own print for that function. 
  THE HOLE IS FILLED. ALL ELSE IS THE GUIDE's TEMPLATE (howto/template/XProofs.lean) at this function's number and types: leave it.
-/
import Derived.Test.YbulkbvaoRows
import Derived.WalkKit
import Derived.ProofKit
import Derived.OpenShut
import Derived.ShutString
import Derived.Test.YbulkbvaoGrid
namespace Go.Proofs.Ybulkbvao.lawS3576AShape
open Go.ChangeShapes Go.WideShapes Go.ChangeAt Go.RowKit
open Go.ChangeMaps (open_string shut_string)
set_option linter.unusedVariables false      -- a walk need not use every 'w<i>' (that an integer argument fits its kind)

theorem own : ownKnob Yba.prog.godebug = none := by kernel_rfl

theorem square (a : Int) (h0 : -1027 ≤ a) (h1 : a ≤ 1024) : ∃ m : Nat, (a + 3) * (a + 3) = (m : Int) ∧ m ≤ 1054729 := by
  refine ⟨((a + 3) * (a + 3)).toNat, ?_, ?_⟩
  · have : 0 ≤ (a + 3) * (a + 3) := by
      rcases Int.le_total 0 (a + 3) with h | h
      · exact Int.mul_nonneg h h
      · exact Int.mul_nonneg_of_nonpos_of_nonpos h h
    omega
  · have h : (a + 3) * (a + 3) ≤ 1027 * 1027 := by
      have e : ((a + 3).natAbs : Int) * (a + 3).natAbs = (a + 3) * (a + 3) := Int.natAbs_mul_self
      rw [← e]
      exact Int.mul_le_mul (by omega) (by omega) (by omega) (by omega)
    omega

/-! ### STEP 1: THE WALK: the Go text returns true. 'Grown w w'': the world has at most new blocks (Derived/RowKit3.lean). Part the cases AHEAD of 'go_enter' where a test parts the walk; take each callee by a contract of your own. -/
theorem walk (a0 : Int) (w0 : (Lit.int .i64 a0).wf = true) (w : World) :
    Calls Yba.prog 3 #[.int .i64 a0] w fun e w' => e = .returned (.bool true) ∧ Grown w w' := by
  by_cases hlo : a0 < -1027
  · go_enter Yba.func3, Yba.ntmps3
    go_wp2
    go_ret
    exact ⟨rfl, Grown.refl _⟩
  by_cases hhi : 1024 < a0
  · go_enter Yba.func3, Yba.ntmps3
    go_wp2
    go_ret
    exact ⟨rfl, Grown.refl _⟩
  obtain ⟨m, hm, hmb⟩ := square a0 (by omega) (by omega)
  have hg := grid_any a0 m w (by omega) (by omega) hm hmb
  go_enter Yba.func3, Yba.ntmps3
  go_wp2_with (go_at_call 8; refine hg.mono ?_; rintro e w1 ⟨g, rfl, hR, hG⟩)
  have hR2 := hR.alloc (Obj.cells #[Value.int IntKind.i64 (a0 + 3), Value.slice (some ⟨g, 0, none⟩) m m] 24)
  have hc : ∀ k : Nat, k < m → (w1.alloc (Obj.cells #[Value.int IntKind.i64 (a0 + 3), Value.slice (some ⟨g, 0, none⟩) m m] 24)).cell? ⟨g, k, none⟩ = some (.int .i32 0) := fun k hk => by
    have := hR2.cell' k (by simpa using hk)
    rw [this, List.getElem?_replicate, if_pos hk]; rfl
  clear hR hR2 hg
  go_loop [5] (fun i => ∃ k : Nat, k ≤ m ∧ i = .int .i64 k) (fun i => m - (intOf i).toNat)
  case atStart => exact ⟨0, Nat.zero_le _, rfl⟩
  case round =>
    obtain ⟨k, hk, rfl⟩ := hrel
    by_cases hlt : k < m
    · have hck := hc k hlt
      clear hc
      go_wp2
      go_round
      case rel => exact ⟨k + 1, by omega, by go_num⟩
      case measure => simp [intOf]; omega
    · clear hc
      go_wp2
      go_ret
      exact ⟨rfl, hG.alloc _ _⟩

/-! ### THE ROW's STEP: WRITTEN OUT: LEAVE IT -/
set_option maxRecDepth 100000 in
theorem lifted (os : Os) (started : os.Started) (H : Type) (enc : TypeId × Value → H) :
    ReturnsInHanded {} Yba.checked os 3 .any (Rows.lawS3576AShapeSpec.pre6 enc Yba.prog Yba.f3 Rows.lawS3576AShapeRow.domain false) (Rows.lawS3576AShapeSpec.post enc Yba.prog Yba.f3 false true false false) := by
  refine returnsInHanded_of_change (C := Yba.checked) own started (by kernel_rfl) Yba.func3
    (ChangeSpec.witness6 (enc := enc) (C := Yba.checked) false ⟨#[], #[.int .i64 0], []⟩ 8 (by kernel_rfl) (by kernel_rfl) (by kernel_rfl) (by kernel_rfl)) ?_
  intro W base args ds gs before hval0 hW hcnd _
  have hval : ∀ (j : Nat) t v, Yba.f3.params[j]? = some t → args[j]? = some v → Value.okWide Yba.prog W .any base t v := hval0
  have hW' := hW
  obtain ⟨p, q, hA0, hV, rfl, hfz, hnd⟩ := hW
  have hA : DataW.TrodAll enc Yba.prog W 0 (fun _ => true) true Yba.f3.params.toList args.toList ds p := hA0
  rw [Yba.params3] at hA hval
  obtain ⟨v0, vs0, d0, ds0, p0, q0, hargs, rfl, rfl, h0, r0⟩ := trodAll_cons hA
  obtain ⟨rfl, rfl, rfl⟩ := trodAll_nil r0
  obtain rfl : args = #[v0] := by cases args; simp_all
  obtain ⟨rfl, rfl⟩ := trodVars_none hV
  obtain ⟨a0, rfl, rfl, rfl, w0⟩ := open_int Yba.underlying3 (hval 0 3 v0 rfl rfl) h0
  clear hA0 hval0
  simp only [List.append_nil] at hW'
  refine (walk a0 w0 W).mono fun e W' ⟨he, hg⟩ => ?_
  subst he
  exact ⟨_, rfl, post_of_same (pa := []) (pv := []) hW' (fun _ _ _ => (trodAll_cons_mk (shut_bool Yba.underlying4 _) trodAll_mk0)) (fun sp _ => (trodAll_cons_mk (shut_int Yba.underlying3 w0) trodAll_mk0)) (fun _ _ => rfl) rfl
    (hg.frame _) hg.2.1 (ok_one (by kernel_rfl) rfl (okWide_bool_mk Yba.underlying4 _))⟩

theorem over : Rows.lawS3576AShapeRow.holds Yba.pinned (OpenSpec.ofChange Rows.lawS3576AShapeSpec) :=
  OpenClaim.holds_of_wide 3 Yba.f3 rfl rfl rfl rfl rfl rfl rfl ⟨rfl, rfl, rfl, rfl, rfl⟩ rfl rfl rfl rfl rfl (by kernel_rfl) Yba.func3 (by kernel_rfl)
    (of_decide_eq_true (by kernel_rfl)) (by unfold Func.isWrapper; first | (rw [if_pos (by decide +kernel)]; kernel_rfl) | (rw [if_neg (by decide +kernel)]; exact ⟨rfl, rfl⟩))
    (fun os started H enc _ => lifted os started H enc)

/-- ████ THE STATEMENT ████ -/
theorem proved : Rows.LawS3576AShapeSaid :=
  over
end Go.Proofs.Ybulkbvao.lawS3576AShape
