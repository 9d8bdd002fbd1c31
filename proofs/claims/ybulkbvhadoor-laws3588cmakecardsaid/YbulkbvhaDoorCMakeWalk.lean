/-
  The law LawS3588CMake, walked: its two arms.
-/
import Derived.Test.YbulkbvhaDoorMake
import Derived.LaidEql
namespace Go.Proofs.YbulkbvhaDoor
open Go.RowKit

theorem digits_at (x : Int) (b : Nat) (h64 : b ≤ 64) (hx : x = (top b : Int)) (w : World) :
    Calls Ybad.prog 5 #[.int .u64 x] w fun e w' => e = .returned (.int .i64 (Lib.nDigits (top b))) ∧ w' = w := by
  subst hx
  exact digits_any (top b) (top_lt h64) w

theorem Pow.below {w w' : World} (h : Pow w) (hb : Below w.heap.size w w') : Pow w' := by
  unfold Pow Lib.TabIs World.var? at *
  cases hg : Ybad.prog.globalNamed "internal/strconv.uint64pow10" with
  | none => simp [hg] at h
  | some g =>
    simp only [hg, Option.bind_some] at h ⊢
    have hlt : g < w.heap.size := by
      rcases Nat.lt_or_ge g w.heap.size with h' | h'
      · exact h'
      · rw [Array.getElem?_eq_none h'] at h; simp at h
    rw [hb.block g hlt]
    exact h

theorem maker_any (s : ByteArray) (y : Int) (w : World) :
    Calls Ybad.prog 4 #[.string s, .int .i64 y] w fun e w' => (∃ p q : Addr, e = .returned (.func (.func 6) #[] #[.pointer (some p), .pointer (some q)]) ∧ w'.cell? p = some (.string s) ∧ w'.cell? q = some (.int .i64 y)) ∧ Below w.heap.size w w' := by
  go_enter Ybad.func4, Ybad.ntmps4
  go_wp2
  go_ret
  exact ⟨⟨_, _, rfl, by simp, by simp⟩, ((Below.refl _ _).alloc (Nat.le_refl _) _).alloc (by simp) _⟩

set_option maxHeartbeats 1000000 in
set_option maxRecDepth 100000 in
theorem law_err (s : ByteArray) (x : Int) (hx0 : 0 ≤ x) (hx1 : x ≤ 255) (a : Option Addr) (n c : Nat) (u : Bool) (hn : 1 < n) (hm : n ≤ 9223372036854775807) (te : TypeId) (ea : Addr) (w : World)
    (hc : w.cell? ⟨0, 0, none⟩ = some (.iface te (.pointer (some ea)))) (hpos : 0 < w.heap.size)
    (heq : ∀ W, (binOp .eql 28 (.iface te (.pointer (some ea))) (.iface te (.pointer (some ea)))).run Ybad.prog W = .ok (.bool true) W) :
    Calls Ybad.prog 3 #[.string s, .int .u8 x, .slice a n c, .bool u] w fun e w' => e = .returned (.bool true) ∧ Below w.heap.size w w' := by
  go_enter Ybad.func3, Ybad.ntmps3
  go_wp2_with (first
    | (go_at_call 4; refine (maker_any s _ _).mono ?_; rintro e w0 ⟨⟨p, q, rfl, hp, hq⟩, hB0⟩)
    | (go_at_call 6; refine (clos_err a n c u _ _ _ hn hm _ (by rw [hB0.cell (p := ⟨0, 0, none⟩) hpos]; exact hc)).mono ?_; rintro e w1 ⟨rfl, hB⟩; have hc1 : w1.cell? ⟨0, 0, none⟩ = some (.iface te (.pointer (some ea))) := (by rw [hB.cell (p := ⟨0, 0, none⟩) (Nat.lt_of_lt_of_le hpos hB0.size), hB0.cell (p := ⟨0, 0, none⟩) hpos]; exact hc); have HB : Hid (Below w.heap.size w w1) := hB0.trans (hB.mono hB0.size); clear hB))
  go_ret
  exact ⟨rfl, HB.out⟩

theorem assert30 (v : Value) (xT : TypeId) (w : World) : (Instr.typeAssert (.iface 30 v) xT 30 true).run Ybad.prog w = .ok (.tuple #[v, .bool true]) w := by
  simp [Instr.typeAssert, run_underlying Ybad.underlying30, go_sem, Result.andThen]
theorem pow_in {b : Nat} (h : b ≤ 63) : (2 : Int) ^ b < 18446744073709551616 ∧ 0 < (2 : Int) ^ b := by
  have e : (2 : Int) ^ b = ((2 ^ b : Nat) : Int) := by simp
  have h1 : 2 ^ b ≤ 2 ^ 63 := Nat.pow_le_pow_right (by decide) h
  have h2 : 0 < 2 ^ b := Nat.two_pow_pos b
  rw [e]
  omega
theorem top_sub (b : Nat) : (2 : Int) ^ b - 1 = (top b : Int) := by
  have e : (2 : Int) ^ b = ((2 ^ b : Nat) : Int) := by simp
  have h2 : 0 < 2 ^ b := Nat.two_pow_pos b
  unfold top
  rw [e]
  omega
theorem top_64 : (18446744073709551615 : Int) = (top 64 : Int) := by decide +kernel
theorem nDigits_le : ∀ (k u : Nat), u < 10 ^ (k + 1) → Lib.nDigits u ≤ k + 1
  | 0, u, h => by rw [Lib.nDigits_small (by simpa using h)]; omega
  | k + 1, u, h => by
    by_cases h10 : u < 10
    · rw [Lib.nDigits_small h10]; omega
    · rw [Lib.nDigits_big h10]
      have := nDigits_le k (u / 10) (by rw [Nat.pow_succ] at h; omega)
      omega
theorem nd_le (b : Nat) (h : b ≤ 63) : (Lib.nDigits (top b) : Int) ≤ 19 := by
  have h1 : 2 ^ b ≤ 2 ^ 63 := Nat.pow_le_pow_right (by decide) h
  have h2 := nDigits_le 18 (top b) (by unfold top; omega)
  omega
theorem nd_64 : (Lib.nDigits (top 64) : Int) = 20 := by
  rw [Lib.nDigits_unique 19 (top 64) (by decide +kernel) (by decide +kernel)]
  rfl

set_option maxHeartbeats 2000000 in
set_option maxRecDepth 100000 in
theorem law_uns (s : ByteArray) (hs : s.size ≤ 140737488351232) (x : Int) (hx0 : 0 ≤ x) (hx1 : x ≤ 255) (b : Nat) (h1 : 1 ≤ b) (h63 : b ≤ 63) (hb : x % 64 + 1 = (b : Int)) (a : Option Addr) (n c : Nat) (hn : n ≤ 1) (w : World) (htab : Pow w) :
    Calls Ybad.prog 3 #[.string s, .int .u8 x, .slice a n c, .bool true] w fun e w' => e = .returned (.bool true) ∧ Below w.heap.size w w' := by
  have hne : ¬ ((b : Int) = 64) := by omega
  have hq2 : (2 : Int) ^ b < 18446744073709551616 ∧ 0 < (2 : Int) ^ b := pow_in h63
  have has := assert30
  go_enter Ybad.func3, Ybad.ntmps3
  go_wp2_with (first
    | (go_at_call 4; refine (maker_any s _ _).mono ?_; rintro e w0 ⟨⟨p, q, rfl, hp, hq⟩, hB0⟩; have HP : Hid (w0.cell? p = some (.string s)) := hp; have HQ : Hid (w0.cell? q = some (.int .i64 (b : Nat))) := hq; have HTab : Hid (Pow w0) := htab.below hB0; clear hp hq)
    | (go_at_call 6; refine (clos_new a n c true p q hn s b h1 (by omega) hs _ HP.out HQ.out HTab.out).mono ?_; rintro e w1 ⟨⟨g, hg, rfl, hT⟩, hB⟩; have hc0 : w1.cell? ⟨g, 0, none⟩ = some (.string (s ++ unsS)) := hT.name; have hc5 := hT.uns; have hc6 : w1.cell? ⟨g, 6, none⟩ = some (.int .i64 (Lib.nDigits (top b))) := hT.digits; have hc7 := hT.year; have HB : Hid (Below w.heap.size w w1) := hB0.trans (hB.mono hB0.size); clear hB hT)
    | (go_at_call 5; refine (digits_at _ b (by omega) (top_sub b) _).mono ?_; rintro e w2 ⟨rfl, rfl⟩))
  go_ret
  exact ⟨rfl, HB.out⟩

set_option maxHeartbeats 2000000 in
set_option maxRecDepth 100000 in
theorem law_uns64 (s : ByteArray) (hs : s.size ≤ 140737488351232) (x : Int) (hx0 : 0 ≤ x) (hx1 : x ≤ 255) (hb : x % 64 + 1 = 64) (a : Option Addr) (n c : Nat) (hn : n ≤ 1) (w : World) (htab : Pow w) :
    Calls Ybad.prog 3 #[.string s, .int .u8 x, .slice a n c, .bool true] w fun e w' => e = .returned (.bool true) ∧ Below w.heap.size w w' := by
  have has := assert30
  go_enter Ybad.func3, Ybad.ntmps3
  go_wp2_with (first
    | (go_at_call 4; refine (maker_any s _ _).mono ?_; rintro e w0 ⟨⟨p, q, rfl, hp, hq⟩, hB0⟩; have HP : Hid (w0.cell? p = some (.string s)) := hp; have HQ : Hid (w0.cell? q = some (.int .i64 (64 : Nat))) := hq; have HTab : Hid (Pow w0) := htab.below hB0; clear hp hq)
    | (go_at_call 6; refine (clos_new a n c true p q hn s 64 (by decide) (by decide) hs _ HP.out HQ.out HTab.out).mono ?_; rintro e w1 ⟨⟨g, hg, rfl, hT⟩, hB⟩; have hc0 : w1.cell? ⟨g, 0, none⟩ = some (.string (s ++ unsS)) := hT.name; have hc5 := hT.uns; have hc6 : w1.cell? ⟨g, 6, none⟩ = some (.int .i64 (Lib.nDigits (top 64))) := hT.digits; have hc7 := hT.year; have HB : Hid (Below w.heap.size w w1) := hB0.trans (hB.mono hB0.size); clear hB hT)
    | (go_at_call 5; refine (digits_at _ 64 (by decide) top_64 _).mono ?_; rintro e w2 ⟨rfl, rfl⟩))
  go_ret
  exact ⟨rfl, HB.out⟩

set_option maxHeartbeats 2000000 in
set_option maxRecDepth 100000 in
theorem law_sgn (s : ByteArray) (hs : s.size ≤ 140737488351232) (x : Int) (hx0 : 0 ≤ x) (hx1 : x ≤ 255) (b : Nat) (h1 : 1 ≤ b) (h63 : b ≤ 63) (hb : x % 64 + 1 = (b : Int)) (a : Option Addr) (n c : Nat) (hn : n ≤ 1) (w : World) (htab : Pow w) :
    Calls Ybad.prog 3 #[.string s, .int .u8 x, .slice a n c, .bool false] w fun e w' => e = .returned (.bool true) ∧ Below w.heap.size w w' := by
  have hne : ¬ ((b : Int) = 64) := by omega
  have hq2 : (2 : Int) ^ b < 18446744073709551616 ∧ 0 < (2 : Int) ^ b := pow_in h63
  have h19 : (Lib.nDigits (top b) : Int) ≤ 19 := nd_le b h63
  have has := assert30
  go_enter Ybad.func3, Ybad.ntmps3
  go_wp2_with (first
    | (go_at_call 4; refine (maker_any s _ _).mono ?_; rintro e w0 ⟨⟨p, q, rfl, hp, hq⟩, hB0⟩; have HP : Hid (w0.cell? p = some (.string s)) := hp; have HQ : Hid (w0.cell? q = some (.int .i64 (b : Nat))) := hq; have HTab : Hid (Pow w0) := htab.below hB0; clear hp hq)
    | (go_at_call 6; refine (clos_new a n c false p q hn s b h1 (by omega) hs _ HP.out HQ.out HTab.out).mono ?_; rintro e w1 ⟨⟨g, hg, rfl, hT⟩, hB⟩; have hc0 : w1.cell? ⟨g, 0, none⟩ = some (.string s) := hT.name; have hc5 := hT.uns; have hc6 : w1.cell? ⟨g, 6, none⟩ = some (.int .i64 (Lib.nDigits (top b))) := (by rw [hT.digits, if_neg (by decide), Int.min_eq_left h19]); have hc7 := hT.year; have HB : Hid (Below w.heap.size w w1) := hB0.trans (hB.mono hB0.size); clear hB hT)
    | (go_at_call 5; refine (digits_at _ b (by omega) (top_sub b) _).mono ?_; rintro e w2 ⟨rfl, rfl⟩))
  go_ret
  exact ⟨rfl, HB.out⟩

set_option maxHeartbeats 2000000 in
set_option maxRecDepth 100000 in
theorem law_sgn64 (s : ByteArray) (hs : s.size ≤ 140737488351232) (x : Int) (hx0 : 0 ≤ x) (hx1 : x ≤ 255) (hb : x % 64 + 1 = 64) (a : Option Addr) (n c : Nat) (hn : n ≤ 1) (w : World) (htab : Pow w) :
    Calls Ybad.prog 3 #[.string s, .int .u8 x, .slice a n c, .bool false] w fun e w' => e = .returned (.bool true) ∧ Below w.heap.size w w' := by
  have h20 : (Lib.nDigits (top 64) : Int) = 20 := nd_64
  have has := assert30
  go_enter Ybad.func3, Ybad.ntmps3
  go_wp2_with (first
    | (go_at_call 4; refine (maker_any s _ _).mono ?_; rintro e w0 ⟨⟨p, q, rfl, hp, hq⟩, hB0⟩; have HP : Hid (w0.cell? p = some (.string s)) := hp; have HQ : Hid (w0.cell? q = some (.int .i64 (64 : Nat))) := hq; have HTab : Hid (Pow w0) := htab.below hB0; clear hp hq)
    | (go_at_call 6; refine (clos_new a n c false p q hn s 64 (by decide) (by decide) hs _ HP.out HQ.out HTab.out).mono ?_; rintro e w1 ⟨⟨g, hg, rfl, hT⟩, hB⟩; have hc0 : w1.cell? ⟨g, 0, none⟩ = some (.string s) := hT.name; have hc5 := hT.uns; have hc6 : w1.cell? ⟨g, 6, none⟩ = some (.int .i64 19) := (by rw [hT.digits, if_neg (by decide), h20]; rfl); have hc7 := hT.year; have HB : Hid (Below w.heap.size w w1) := hB0.trans (hB.mono hB0.size); clear hB hT)
    | (go_at_call 5; refine (digits_at _ 64 (by decide) top_64 _).mono ?_; rintro e w2 ⟨rfl, rfl⟩))
  go_ret
  exact ⟨rfl, HB.out⟩

/-- The law answers true, one argument at the most. -/
theorem law_new (s : ByteArray) (hs : s.size ≤ 140737488351232) (x : Int) (hx0 : 0 ≤ x) (hx1 : x ≤ 255) (a : Option Addr) (n c : Nat) (u : Bool) (hn : n ≤ 1) (w : World) (htab : Pow w) :
    Calls Ybad.prog 3 #[.string s, .int .u8 x, .slice a n c, .bool u] w fun e w' => e = .returned (.bool true) ∧ Below w.heap.size w w' := by
  obtain ⟨b, hb⟩ : ∃ b : Nat, x % 64 + 1 = (b : Int) := ⟨(x % 64 + 1).toNat, by omega⟩
  by_cases h6 : b = 64
  · subst h6
    cases u
    · exact law_sgn64 s hs x hx0 hx1 hb a n c hn w htab
    · exact law_uns64 s hs x hx0 hx1 hb a n c hn w htab
  · cases u
    · exact law_sgn s hs x hx0 hx1 b (by omega) (by omega) hb a n c hn w htab
    · exact law_uns s hs x hx0 hx1 b (by omega) (by omega) hb a n c hn w htab
end Go.Proofs.YbulkbvhaDoor
