/-
  newIntegerType, integerMaker and the closure that it hands back.
-/
import Derived.Test.YbulkbvhaDoorBig
import Derived.RegionTactic
import Derived.ChangeAlike
import Derived.Deep.QuietTactic
import Derived.BigQuiet
namespace Go.Proofs.YbulkbvhaDoor
open Go.RowKit
/-- The largest unsigned value of b bits. -/
def top (b : Nat) : Nat := 2 ^ b - 1
theorem top_shr : ∀ b : Nat, b ≤ 64 → (18446744073709551615 : Int) / 2 ^ (64 - b) = (top b : Int) := by
  intro b hb
  have h : ∀ b, b < 65 → (18446744073709551615 : Int) / 2 ^ (64 - b) = (top b : Int) := by decide +kernel
  exact h b (by omega)
theorem top_pos {b : Nat} (h : 1 ≤ b) : 0 < top b := by
  have : 2 ^ 1 ≤ 2 ^ b := Nat.pow_le_pow_right (by decide) h
  unfold top; omega
theorem top_lt {b : Nat} (h : b ≤ 64) : top b < 18446744073709551616 := by
  have : 2 ^ b ≤ 2 ^ 64 := Nat.pow_le_pow_right (by decide) h
  unfold top; omega
theorem wrap_lo (x : Int) : -9223372036854775808 ≤ wrap64 x := by unfold wrap64; omega
theorem wrap_hi (x : Int) : wrap64 x ≤ 9223372036854775807 := by unfold wrap64; omega

/-- " UNSIGNED". -/
abbrev unsS : ByteArray := { data := #[32, 85, 78, 83, 73, 71, 78, 69, 68] }

/-- The cells of an integerType that the law reads. -/
structure Ty (w : World) (g : Nat) (nm : ByteArray) (uns : Bool) (d : Int) : Prop where
  name : w.cell? ⟨g, 0, none⟩ = some (.string nm)
  uns : w.cell? ⟨g, 5, none⟩ = some (.bool uns)
  digits : w.cell? ⟨g, 6, none⟩ = some (.int .i64 d)
  year : w.cell? ⟨g, 7, none⟩ = some (.bool false)

set_option maxHeartbeats 1000000 in
theorem new_uns (s : ByteArray) (b : Nat) (h1 : 1 ≤ b) (h64 : b ≤ 64) (hs : s.size ≤ 140737488351232) (w : World) (htab : Pow w) :
    Calls Ybad.prog 7 #[.string s, .int .i64 b, .bool true] w fun e w' => (∃ g, w.heap.size ≤ g ∧ e = .returned (.pointer (some ⟨g, 0, none⟩)) ∧ Ty w' g (s ++ unsS) true (Lib.nDigits (top b))) ∧ Below w.heap.size w w' := by
  have e1 := top_shr b h64
  have p0 := top_pos h1
  have p1 := top_lt h64
  go_enter Ybad.func7, Ybad.ntmps7
  go_wp2_with (first
    | (go_at_call 8; refine (formatUint_any (top b) p1 _ htab).mono ?_; rintro e w1 ⟨⟨t, rfl, ht⟩, hB1⟩)
    | (go_at_call 9; refine (fromUint_any (top b) p0 p1 _).mono ?_; rintro e w2 ⟨⟨q, rfl⟩, hB2⟩))
  go_ret
  exact ⟨⟨w2.heap.size, Nat.le_trans hB1.size hB2.size, rfl, ⟨by simp, by simp, by simp, by simp⟩⟩, (hB1.trans (hB2.mono hB1.size)).alloc (Nat.le_trans hB1.size hB2.size) _⟩

set_option maxHeartbeats 1000000 in
theorem new_sgn (s : ByteArray) (b : Nat) (h1 : 1 ≤ b) (h64 : b ≤ 64) (w : World) (htab : Pow w) :
    Calls Ybad.prog 7 #[.string s, .int .i64 b, .bool false] w fun e w' => (∃ g, w.heap.size ≤ g ∧ e = .returned (.pointer (some ⟨g, 0, none⟩)) ∧ Ty w' g s false (min (Lib.nDigits (top b)) 19)) ∧ Below w.heap.size w w' := by
  have e1 := top_shr b h64
  have p0 := top_pos h1
  have p1 := top_lt h64
  go_enter Ybad.func7, Ybad.ntmps7
  go_wp2_with (first
    | (go_at_call 8; refine (formatUint_any (top b) p1 _ htab).mono ?_; rintro e w1 ⟨⟨t, rfl, ht⟩, hB1⟩)
    | (go_at_call 10; refine (fromInt_any _ (by first | omega | exact wrap_lo _) (by first | omega | exact wrap_hi _) _).mono ?_; rintro e w2 ⟨⟨q, rfl⟩, hB2⟩; replace hB1 := hB1.trans (hB2.mono hB1.size); clear hB2))
  go_ret
  exact ⟨⟨w2.heap.size, hB1.size, rfl, ⟨by simp, by simp, by simp, by simp⟩⟩, hB1.alloc hB1.size _⟩

/-- The closure, more than one argument: nil, and what the variable holds. -/
theorem clos_err (a : Option Addr) (n c : Nat) (u : Bool) (p q x : Value) (hn : 1 < n) (hm : n ≤ 9223372036854775807) (w : World) (hx : w.cell? ⟨0, 0, none⟩ = some x) :
    Calls Ybad.prog 6 #[.slice a n c, .bool u, p, q] w fun e w' => e = .returned (.tuple #[.nilIface, x]) ∧ Below w.heap.size w w' := by
  go_enter Ybad.func6, Ybad.ntmps6
  go_wp2
  go_quiet (fail)
  go_wp2
  go_ret2
  exact ⟨rfl, ⟨rfl, rfl, rfl, Nat.le_refl _, fun _ _ => rfl⟩⟩

theorem clos_new (a : Option Addr) (n c : Nat) (u : Bool) (p q : Addr) (hn : n ≤ 1) (s : ByteArray) (b : Nat) (h1 : 1 ≤ b) (h64 : b ≤ 64) (hs : s.size ≤ 140737488351232) (w : World) (hp : w.cell? p = some (.string s)) (hq : w.cell? q = some (.int .i64 b)) (htab : Pow w) :
    Calls Ybad.prog 6 #[.slice a n c, .bool u, .pointer (some p), .pointer (some q)] w fun e w' => (∃ g, w.heap.size ≤ g ∧ e = .returned (.tuple #[.iface 30 (.pointer (some ⟨g, 0, none⟩)), .nilIface]) ∧ Ty w' g (if u then s ++ unsS else s) u (if u then Lib.nDigits (top b) else min (Lib.nDigits (top b)) 19)) ∧ Below w.heap.size w w' := by
  cases u
  · go_enter Ybad.func6, Ybad.ntmps6
    go_wp2_with (go_at_call 7; refine (new_sgn s b h1 h64 _ htab).mono ?_; rintro e w2 ⟨⟨g, hg, rfl, hT⟩, hB⟩)
    go_ret2
    exact ⟨⟨g, hg, rfl, hT⟩, hB⟩
  · go_enter Ybad.func6, Ybad.ntmps6
    go_wp2_with (go_at_call 7; refine (new_uns s b h1 h64 hs _ htab).mono ?_; rintro e w2 ⟨⟨g, hg, rfl, hT⟩, hB⟩)
    go_ret2
    exact ⟨⟨g, hg, rfl, hT⟩, hB⟩
end Go.Proofs.YbulkbvhaDoor
