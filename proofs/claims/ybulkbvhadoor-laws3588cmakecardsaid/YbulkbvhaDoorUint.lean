/-
  internal/strconv.FormatUint and strconv.FormatUint at base 10: a text of as many bytes as the number has decimal digits; below the heap's end nothing has turned. After the shelf's own proof of FormatInt (Derived/Shelf/Strconv/Itoa3.lean).
-/
import Derived.Test.YbulkbvhaDoorRows
import Derived.Test.YbulkbvhaDoorShelf
import Derived.Lib.AppendIntMem
import Derived.Lib.ItoaLen
import Derived.Lib.Walk
import Derived.WalkKit
import Derived.BigCall
import Derived.BigGuard
namespace Go.Proofs.YbulkbvhaDoor
open Go.Shelf Go.RowKit Go.Sort Go.Lib

/-- The library's table of the powers of ten lies as laid. -/
def Pow (w : World) : Prop := Lib.TabIs Ybad.prog w "internal/strconv.uint64pow10" .u64 Lib.pow10Tab

set_option maxHeartbeats 1000000 in
set_option maxRecDepth 100000 in
theorem format_any (u : Nat) (hu64 : u < 18446744073709551616) (w : World) (htab : Pow w) :
    Calls Ybad.prog 11 #[.int .u64 u, .int .i64 10] w fun e w' => (∃ s : ByteArray, e = .returned (.string s) ∧ s.size = Lib.nDigits u) ∧ Below w.heap.size w w' := by
  by_cases hs : u < 100
  · go_enter Ybad.func11, Ybad.ntmps11
    go_wp2_with (go_at_call 14; refine (Ybad.internal_strconv_small u hs _).mono ?_; rintro e w' ⟨rfl, rfl⟩)
    go_ret
    exact ⟨⟨_, rfl, by show (Lib.decDigits u).toArray.size = _; rw [List.size_toArray, Lib.decDigits_length]⟩, Below.refl _ _⟩
  · have hu1 : 1 ≤ u := by omega
    have hnd20 : Lib.nDigits u ≤ 20 := Lib.nDigits_le20 u hu64
    have hal : Ybad.prog.arrayLen 52 = 24 := by simp [Program.arrayLen, Ybad.underlying52]
    have hsl1 : ∀ W, (Instr.sliceAt 52 (.pointer (some ⟨w.heap.size, 0, none⟩)) none (some (.int .i64 (Lib.nDigits u : Int))) none).run Ybad.prog W = .ok (.slice (some ⟨w.heap.size, 0, none⟩) (Lib.nDigits u) 24) W := fun W => by
      rw [run_sliceAt_array_h W 52 ⟨w.heap.size, 0, none⟩ (by simp [Program.arrayLen, Program.elem, Ybad.underlying52]) .i64 (Lib.nDigits u : Int) (by omega) (by rw [hal]; omega)]
      go_simp
    have hH0 := Lib.holds_zero0 w 52 (Lib.nDigits u) (by omega)
    have hfmt := Ybad.internal_strconv_formatBase10 w.heap.size 0 24 u (Array.replicate (Lib.nDigits u) 0) (w.alloc (.cells Lib.zeros24 52)) hH0 (by rw [Array.size_replicate]; exact Lib.lt_pow_nDigits u) hu64 (by rw [Array.size_replicate]; omega)
    rw [Array.size_replicate] at hfmt
    have HH0 := Lib.hid hH0
    clear hH0 hal
    go_enter Ybad.func11, Ybad.ntmps11
    go_wp2_with (go_at_call 15; refine (Ybad.internal_strconv_numDigits u hu1 hu64 _ (Lib.tabIs_alloc htab _)).mono ?_; rintro e w' ⟨rfl, rfl⟩)
    go_at_call 16
    refine hfmt.mono ?_
    rintro e w' ⟨rfl, k, v', dk, rfl, hF⟩
    have hcv : (convert 54 9 (.slice (some ⟨w.heap.size, 0, none⟩) (Lib.nDigits u) 24)).run Ybad.prog ((putRow (fun (b : UInt8) => Value.int .u8 (b.toNat : Int)) (w.alloc (.cells Lib.zeros24 52)) w.heap.size 0 dk).drewN k) = .ok (.string ⟨(Lib.decDigits u).toArray⟩) ((putRow (fun (b : UInt8) => Value.int .u8 (b.toNat : Int)) (w.alloc (.cells Lib.zeros24 52)) w.heap.size 0 dk).drewN k) := by
      have h := run_convert_bytes_back (P := Ybad.prog) ((putRow (fun (b : UInt8) => Value.int .u8 (b.toNat : Int)) (w.alloc (.cells Lib.zeros24 52)) w.heap.size 0 dk).drewN k) 54 9 5 ⟨w.heap.size, 0, none⟩ 24 (Lib.decDigits u) Ybad.underlying54 Ybad.underlying5 Ybad.underlying9 (fun j hj => by
        rw [Lib.row_is_numeral hF j hj, Lib.add_plain, World.cell?_drewN]
        exact cell?_putRow (fun (b : UInt8) => Value.int .u8 (b.toNat : Int)) _ w.heap.size 0 _ dk HH0.out (by rw [hF.size, Array.size_replicate]) j (by rw [hF.size]; rw [Lib.decDigits_length] at hj; exact hj))
      rw [Lib.decDigits_length] at h
      exact h
    go_wp2
    go_ret
    obtain ⟨os, eo⟩ := Lib.fin_at w (.cells Lib.zeros24 52) dk k 0
    rw [eo]
    exact ⟨⟨_, rfl, by show (Lib.decDigits u).toArray.size = _; rw [List.size_toArray, Lib.decDigits_length]⟩, Lib.below_grow _ _ (Nat.le_refl _) _ _⟩

theorem formatUint_any (u : Nat) (hu64 : u < 18446744073709551616) (w : World) (htab : Pow w) :
    Calls Ybad.prog 8 #[.int .u64 u, .int .i64 10] w fun e w' => (∃ s : ByteArray, e = .returned (.string s) ∧ s.size = Lib.nDigits u) ∧ Below w.heap.size w w' := by
  go_enter Ybad.func8, Ybad.ntmps8
  go_wp2_with (go_at_call 11; refine (format_any u hu64 _ htab).mono ?_; rintro e w' ⟨⟨s, rfl, hs⟩, hB⟩)
  go_ret
  exact ⟨⟨_, rfl, hs⟩, hB⟩

/-- The law's own count of digits. -/
theorem digits_any (u : Nat) (hu64 : u < 18446744073709551616) (w : World) :
    Calls Ybad.prog 5 #[.int .u64 u] w fun e w' => e = .returned (.int .i64 (Lib.nDigits u)) ∧ w' = w := by
  have hnd20 : Lib.nDigits u ≤ 20 := Lib.nDigits_le20 u hu64
  have HN : Hid (Lib.nDigits u ≤ 20) := hnd20
  clear hnd20
  go_enter Ybad.func5, Ybad.ntmps5
  go_wp2
  go_loop [0, 3] (fun i j => ∃ x n : Nat, x < 18446744073709551616 ∧ n + Lib.nDigits x = Lib.nDigits u + 1 ∧ i = .int .u64 x ∧ j = .int .i64 n) (fun i _ => (RowKit.intOf i).toNat)
  case atStart => exact ⟨u, 1, hu64, by omega, rfl, rfl⟩
  case round =>
    obtain ⟨x, n, hx, hn, rfl, rfl⟩ := hrel
    have HX : Hid (n + Lib.nDigits x = Lib.nDigits u + 1) := hn
    have hn20 : n ≤ 20 := by have := HN.out; have := Lib.nDigits_pos x; omega
    clear hn
    by_cases h10 : x < 10
    · go_wp2
      go_ret
      have := HX.out
      rw [Lib.nDigits_small h10] at this
      exact ⟨by rw [show n = Lib.nDigits u by omega]; rfl, rfl⟩
    · go_wp2
      go_round
      case rel =>
        refine ⟨x / 10, n + 1, by omega, ?_, by go_num, by go_num⟩
        have := HX.out
        rw [Lib.nDigits_big h10] at this
        omega
      case measure => simp [RowKit.intOf]; omega
end Go.Proofs.YbulkbvhaDoor
