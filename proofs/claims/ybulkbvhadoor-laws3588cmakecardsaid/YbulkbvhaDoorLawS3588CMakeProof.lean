/-
  THE ROW OF LawS3588CMake AND ITS TIED CARD. After the guide's worked texts Derived/Test/MapyProofs.lean, MapyCard.lean, Sent6Proofs.lean.
-/
import Derived.Test.YbulkbvhaDoorRows
import Derived.Test.YbulkbvhaDoorTie
import Derived.Test.YbulkbvhaDoorCards
import Derived.WalkKit
import Derived.ProofKit
import Derived.OpenShut
import Derived.ShutString
import Derived.ChangeOld
import Derived.ChangeVars
import Derived.RowKitTokens
import Derived.LaidMore
import Derived.LaidLaws
import Derived.SizedLaws
import Derived.Stop.Joined
import Derived.SevenTiedAt
import Derived.Test.YbulkbvhaDoorCMakeWalk
namespace Go.Proofs.YbulkbvhaDoor.lawS3588CMake
open Go.ChangeShapes Go.WideShapes Go.ChangeAt Go.WideMaps Go.WideElems Go.RowKit
open Go.ChangeMaps (open_string shut_string)

theorem own : ownKnob Ybad.prog.godebug = none := by kernel_rfl
theorem laidOut : laidOutB Ybad.prog = true := by kernel_rfl
theorem gErr : Ybad.prog.globalNamed "example.com/implicast/implicast.errForm" = some 0 := by kernel_rfl
theorem gPow : Ybad.prog.globalNamed "internal/strconv.uint64pow10" = some 1 := by kernel_rfl
theorem tErr : (Ybad.prog.globals[0]?).map (·.type) = some 28 := by kernel_rfl
theorem tPow : (Ybad.prog.globals[1]?).map (·.type) = some 61 := by kernel_rfl
theorem c93 : Ybad.prog.cellsOf 93 = 1 := by kernel_rfl
theorem c9 : Ybad.prog.cellsOf 9 = 1 := by kernel_rfl
theorem c32 : Ybad.prog.cellsOf 32 = 1 := by kernel_rfl
theorem c61 : Ybad.prog.cellsOf 61 = 20 := by kernel_rfl
theorem star : "*" ++ "errors.errorString" = "*errors.errorString" := by decide
theorem row71 (u : TypeId) (h : Ybad.prog.typeName? 3 u = some "*errors.errorString") : u = 71 :=
  typeName_ptr_named (nm := "errors.errorString") (by rw [star]; kernel_rfl) (by kernel_rfl) (by decide) u (by rw [star]; exact h)
theorem comp71 : (Ybad.prog.info? 71).map (·.comparable) = some true := by kernel_rfl
theorem info93 : (Ybad.prog.info? 93).map (fun _ => true) = some true := by kernel_rfl

/-- errForm against itself: true, in whatever world. -/
theorem same (ea : Addr) (W : World) : (binOp .eql 28 (.iface 71 (.pointer (some ea))) (.iface 71 (.pointer (some ea)))).run Ybad.prog W = .ok (.bool true) W := by
  obtain ⟨i, hi, hc⟩ := Option.map_eq_some_iff.1 comp71
  obtain ⟨j, hj, _⟩ := Option.map_eq_some_iff.1 info93
  exact run_eql_iface_ptr_same W ea Ybad.underlying28 Ybad.underlying71 hi hc hj

/-- The door's own heap meets the condition. -/
theorem door_met (os : Os) (args : Array Value) : laidMetH Ybad.prog Rows.lawS3588CMakeRow.laid ((World.doorLaid Ybad.prog 43 os).forCall (fun _ _ => 0) ⟨#[], args, []⟩).memory :=
  laidMetH_of_parts3 (fuel := 8) (laidMet_of_run' 8 (by kernel_rfl) (by kernel_rfl)) (by kernel_rfl) (by kernel_rfl)

/-- What the condition gives the walk: the table of powers, and what errForm holds. -/
theorem of_laid {W : World} (h : laidMetH Ybad.prog Rows.lawS3588CMakeRow.laid W) :
    Pow W ∧ ∃ ea : Addr, W.var? Ybad.prog "example.com/implicast/implicast.errForm" = some #[.iface 71 (.pointer (some ea))] := by
  rw [MakeChecks.laidMetH_plain _ _ _ (by kernel_rfl)] at h
  obtain ⟨ps, ⟨g0, t0, cs0, f0, p0, q0, hg0, ht0, hv0, hd0, ⟨g1, t1, cs1, f1, p1, q1, hg1, ht1, hv1, hd1, ⟨g2, t2, cs2, f2, p2, q2, hg2, ht2, hv2, hd2, ⟨g3, t3, cs3, f3, p3, q3, hg3, ht3, hv3, hd3, hq3, e3⟩, e2⟩, e1⟩, e0⟩, hnd, hrows⟩ := h
  obtain rfl := Option.some.inj (gPow.symm.trans hg2)
  obtain rfl := Option.some.inj (gErr.symm.trans hg3)
  obtain rfl := Option.some.inj (tPow.symm.trans ht2)
  obtain rfl := Option.some.inj (tErr.symm.trans ht3)
  constructor
  · have hcs := Lib.cells_of_tab (k := .u64) (zs := Lib.pow10Tab) Ybad.underlying61 Ybad.underlying32 c32 c61 hd2
    unfold Pow Lib.TabIs
    rw [hv2, ← hcs]
  · obtain ⟨l3⟩ := cs3
    have ok3 : ∀ u v, l3 = [.iface u v] → Value.okWide Ybad.prog W .any 0 u v := fun u v e => by
      subst e
      subst e3; subst e2; subst e1; subst e0
      exact (hrows 0 0 (by simp [MemPlace.row])).2 u v (by simpa using World.var?_cell hg3 hv3 0)
    obtain ⟨a3, s3, rfl, _, _, _, _⟩ := errorString_of_trod Ybad.underlying28 row71 Ybad.underlying71 Ybad.underlying93 rfl rfl Ybad.underlying9 c93 c9 hd3 ok3
    exact ⟨a3, hv3⟩

/-- The variable reads as a token. -/
theorem vars_read {H : Type} (enc : TypeId × Value → H) {W : World} {x0 : Value} (h0 : W.var? Ybad.prog "example.com/implicast/implicast.errForm" = some #[x0]) (i0 : IsIface x0) (sp : Nat → Bool) :
    DataW.TrodVars enc Ybad.prog W sp ["example.com/implicast/implicast.errForm"] [tok enc x0] [.cell 0 0] :=
  ⟨0, 28, #[x0], 1, [], [], gErr, tErr, h0, trod_held Ybad.underlying28 i0 0, rfl, rfl⟩

theorem var_below {B g : Nat} {W W' : World} {n : String} {cs : Array Value} (h : Below B W W') (hg : Ybad.prog.globalNamed n = some g) (hgB : g < B) (hv : W.var? Ybad.prog n = some cs) : W'.var? Ybad.prog n = some cs := by
  unfold World.var? at hv ⊢
  simp only [hg, Option.bind_some] at hv ⊢
  rw [h.block g hgB]
  exact hv

/-- The law, whole. -/
theorem walk (s : ByteArray) (hs : s.size ≤ 140737488351232) (x : Int) (hx0 : 0 ≤ x) (hx1 : x ≤ 255) (a : Option Addr) (n c : Nat) (u : Bool) (hm : n ≤ 9223372036854775807) (ea : Addr) (w : World) (htab : Pow w)
    (hc : w.cell? ⟨0, 0, none⟩ = some (.iface 71 (.pointer (some ea)))) (hpos : 0 < w.heap.size) :
    Calls Ybad.prog 3 #[.string s, .int .u8 x, .slice a n c, .bool u] w fun e w' => e = .returned (.bool true) ∧ Below w.heap.size w w' := by
  by_cases hn : n ≤ 1
  · exact law_new s hs x hx0 hx1 a n c u hn w htab
  · exact law_err s x hx0 hx1 a n c u (by omega) hm 71 ea w hc hpos (same ea)

set_option maxRecDepth 100000 in
theorem lifted (os : Os) (started : os.Started) (H : Type) (enc : TypeId × Value → H) :
    ReturnsInHanded {} Ybad.checked os 3 .any (fun w args => (Rows.lawS3588CMakeSpec.pre enc Ybad.prog Ybad.f3 [] false w args ∧ laidMetH Ybad.prog Rows.lawS3588CMakeRow.laid w) ∧ sizedMet enc Ybad.prog Ybad.f3 (OpenSpec.ofChange Rows.lawS3588CMakeSpec) false w args)
      (Rows.lawS3588CMakeSpec.post enc Ybad.prog Ybad.f3 false true false false) := by
  refine returnsInHanded_of_change_and (C := Ybad.checked) (X := fun w _ => laidMetH Ybad.prog Rows.lawS3588CMakeRow.laid w) (fun _ _ _ hh h => h.of_heap hh) own started (by kernel_rfl) Ybad.func3
    (ChangeSpec.witness_shaped (enc := enc) (C := Ybad.checked) (os := os) (X := fun w _ => laidMetH Ybad.prog Rows.lawS3588CMakeRow.laid w) false (World.doorLaid Ybad.prog 43 os) #[.string ByteArray.empty, .int .u8 0, .slice none 0 0, .bool false] 8 rfl (World.shaped_of_RefB (by kernel_rfl) (by kernel_rfl)) (by kernel_rfl) (by kernel_rfl) (by kernel_rfl) (door_met os _)) ?_
  intro W base args ds gs before hval0 hW _ hsz0 hL _
  have hval : ∀ (j : Nat) t v, Ybad.f3.params[j]? = some t → args[j]? = some v → Value.okWide Ybad.prog W .any base t v := hval0
  have hsz : (DataW.weightsEach Ybad.prog (Ybad.f3.params.toList ++ Rows.lawS3588CMakeSpec.plain.varTypes Ybad.prog) (ds ++ gs)).all (· ≤ reachBytes) = true := hsz0
  have hW' := hW
  obtain ⟨p, q, hA0, hV0, rfl, hfz, hnd⟩ := hW
  have hA : DataW.TrodAll enc Ybad.prog W 0 (fun _ => true) true Ybad.f3.params.toList args.toList ds p := hA0
  have hV : DataW.TrodVars enc Ybad.prog W (fun _ => true) ["example.com/implicast/implicast.errForm"] gs q := hV0
  rw [Ybad.params3] at hA hval hsz
  obtain ⟨v0, vs0, d0, ds0, p0, q0, hargs, rfl, rfl, h0, r0⟩ := trodAll_cons hA
  obtain ⟨v1, vs1, d1, ds1, p1, q1, rfl, rfl, rfl, h1, r1⟩ := trodAll_cons r0
  obtain ⟨v2, vs2, d2, ds2, p2, q2, rfl, rfl, rfl, h2, r2⟩ := trodAll_cons r1
  obtain ⟨v3, vs3, d3, ds3, p3, q3, rfl, rfl, rfl, h3, r3⟩ := trodAll_cons r2
  obtain ⟨rfl, rfl, rfl⟩ := trodAll_nil r3
  obtain rfl : args = #[v0, v1, v2, v3] := by cases args; simp_all
  obtain ⟨a0, rfl, rfl, rfl, w0⟩ := open_string Ybad.underlying9 (hval 0 9 v0 rfl rfl) h0
  obtain ⟨a1, rfl, rfl, rfl, w1⟩ := open_int Ybad.underlying5 (hval 1 5 v1 rfl rfl) h1
  obtain ⟨a2, len2, cap2, rfl⟩ := okWide_slice Ybad.underlying22 (hval 2 22 v2 rfl rfl)
  have k2 := h2
  have lt2 : ∀ x ∈ p2, x.block < W.heap.size := by obtain ⟨m, hm⟩ := k2; exact DataW.trod_lt m _ _ _ hm
  have hlen : len2 ≤ 9223372036854775807 := by
    obtain ⟨fuel, hf⟩ := h2
    rcases open_ints Ybad.underlying22 Ybad.underlying3 (by kernel_rfl) hf with ⟨hcs, _⟩ | ⟨x, l, c, zs, hcs, _, hl, hm, hz, _, hcell, hwz⟩
    · simp [Value.cells] at hcs
      obtain ⟨rfl, rfl, rfl⟩ := hcs
      omega
    · simp [Value.cells] at hcs
      obtain ⟨rfl, rfl, rfl⟩ := hcs
      unfold maxLen at hm
      omega
  obtain ⟨a3, rfl, rfl, rfl⟩ := open_bool Ybad.underlying4 (hval 3 4 v3 rfl rfl) h3
  obtain ⟨hpow, ea, hv⟩ := of_laid hL
  obtain ⟨rfl, rfl⟩ := hV.unique (vars_read enc hv trivial _)
  have hs : a0.size ≤ 140737488351232 := by
    have := sized_string hsz (j := 0) (t := 9) rfl rfl
    unfold reachBytes at this
    simpa using this
  have hg0 : W.cell? ⟨0, 0, none⟩ = some (.iface 71 (.pointer (some ea))) := by simpa using World.var?_cell gErr hv 0
  have hpos : 0 < W.heap.size := by
    rcases Nat.lt_or_ge 0 W.heap.size with h | h
    · exact h
    · simp [World.cell?, Array.getElem?_eq_none h] at hg0
  clear hA0 hV0 hval0 hsz0
  obtain ⟨b0, b1⟩ : 0 ≤ a1 ∧ a1 ≤ 255 := by
    simp [Lit.wf, IntKind.min, IntKind.max, IntKind.bits, IntKind.signed] at w1
    omega
  refine (walk a0 hs a1 b0 b1 a2 len2 cap2 a3 hlen ea W hpow hg0 hpos).mono fun e W' ⟨he, bel⟩ => ?_
  subst he
  exact ⟨_, rfl, _, _, _, [], _, [.cell 0 0], hW', trodAll_mk1 (shut_bool Ybad.underlying4 _), (trodAll_cons_mk (shut_string Ybad.underlying9 w0) (trodAll_cons_mk (shut_int Ybad.underlying5 w1) (trodAll_cons_mk (Below.trod laidOut (by kernel_rfl) (of_decide_eq_true (by kernel_rfl)) k2 bel lt2) (trodAll_cons_mk (shut_bool Ybad.underlying4 _) trodAll_mk0)))), vars_read enc (var_below bel gErr hpos hv) trivial _, bel.frame _, fun h => by cases h⟩

theorem row_holds : Rows.LawS3588CMakeSaid :=
  OpenClaim.holds_of_wide 3 Ybad.f3 rfl rfl rfl rfl rfl rfl rfl ⟨rfl, rfl, rfl, rfl, rfl⟩ rfl rfl rfl rfl rfl (by kernel_rfl) Ybad.func3 (by kernel_rfl)
    (of_decide_eq_true (by kernel_rfl)) (by unfold Func.isWrapper; first | (rw [if_pos (by decide +kernel)]; kernel_rfl) | (rw [if_neg (by decide +kernel)]; exact ⟨rfl, rfl⟩))
    (fun os started H enc _ => lifted os started H enc)

/-- ████ THE CARD ████ -/
theorem proved : Rows.LawS3588CMakeCardSaid :=
  Claim7.holds_tied_plain_at .later [] [.data, .data, .data, .called] true (true, "b694149cadfe7fae3a8151474ec22007aed21ffa14a4dc9f3f738d1e04e8f0fe") true
    row_holds (fun _ h => by cases h) (by kernel_rfl) (fun _ h => by cases h) lawS3588CMake_row_tie rfl ⟨rfl, rfl⟩ (by kernel_rfl) rfl
    (fun f fn hf hfn => by
      obtain rfl : f = 3 := Option.some.inj ((show Ybad.prog.funcNamed "example.com/implicast/implicast.LawS3588CMake" = some 3 by kernel_rfl).symm.trans hf) |>.symm
      obtain rfl : fn = Ybad.f3 := (Option.some.inj (Ybad.func3.symm.trans hfn)).symm
      exact ⟨by kernel_rfl, fun j t ht => by
        rw [Ybad.params3] at ht
        have hm : t ∈ [9, 5, 22, 4] := by simpa using Array.mem_of_getElem? ht
        have hall : ([9, 5, 22, 4].all fun u => !Ybad.prog.wantsStandIn u) = true := by kernel_rfl
        exact (show Ybad.prog.wantsStandIn t = false by simpa using List.all_eq_true.1 hall t hm)⟩)
    (by kernel_rfl)
end Go.Proofs.YbulkbvhaDoor.lawS3588CMake
