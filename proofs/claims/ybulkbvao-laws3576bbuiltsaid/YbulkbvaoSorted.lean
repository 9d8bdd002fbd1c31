/-
  slices.SortFunc under the comparison of 'newWaitlist', at any row of indices.
-/
import Derived.Test.YbulkbvaoCmp
import Derived.Test.YbulkbvaoShelf
namespace Go.Proofs.Ybulkbvao
open Go.RowKit Go.Sort

/-- The comparison, on indices below n + 1. -/
def cfF (ms : List Int) (n : Nat) (x y : Fin (n + 1)) : Int := orI (cmpI (ms[x.val]?.getD 0) (ms[y.val]?.getD 0)) (cmpI (y.val : Int) (x.val : Int))
theorem cfF_lt (ms : List Int) (n : Nat) (x y : Fin (n + 1)) :
    ltOf (cfF ms n) x y = decide (ms[x.val]?.getD 0 < ms[y.val]?.getD 0 ∨ (ms[x.val]?.getD 0 = ms[y.val]?.getD 0 ∧ y.val < x.val)) := by
  unfold ltOf cfF
  generalize ms[x.val]?.getD 0 = a
  generalize ms[y.val]?.getD 0 = b
  generalize x.val = i
  generalize y.val = j
  rcases Int.lt_trichotomy a b with h | h | h
  · rw [cmpI_lt h]; simp [orI, h]
  · rw [cmpI_eq h]
    subst h
    rcases Nat.lt_trichotomy j i with h | h | h
    · rw [cmpI_lt (by omega)]; simp [orI, h]
    · rw [cmpI_eq (by omega)]; simp [orI, h]
    · rw [cmpI_gt (by omega)]; simp [orI]; omega
  · rw [cmpI_gt h]; simp [orI]; omega
theorem cfF_swo (ms : List Int) (n : Nat) : SWO (ltOf (cfF ms n)) where
  irrefl x := by rw [cfF_lt]; simp
  trans x y z h1 h2 := by rw [cfF_lt] at *; simp at *; omega
  ntrans x y z h1 h2 := by rw [cfF_lt] at *; simp at *; omega

def encF (n : Nat) (x : Fin (n + 1)) : Value := .int .i64 (x.val : Int)

theorem sortWorld_block {α : Type} [Inhabited α] (enc : α → Value) (w : World) (blk off m : Nat) (dk : Array α) (os : Array Obj) (k : Nat) (h : k < w.heap.size) (hk : k ≠ blk) :
    (sortWorld enc w blk off m dk os).heap[k]? = w.heap[k]? := by
  unfold sortWorld
  rw [heap_grow_old _ _ (by simpa using h)]
  simp only [putRow, mapBlock, heap_ahead, Array.getElem?_modify]
  rw [if_neg (by omega)]
theorem sortWorld_below {α : Type} [Inhabited α] (enc : α → Value) (w : World) (blk off m : Nat) (dk : Array α) (os : Array Obj) (B : Nat) (hB : B ≤ blk) (hb : blk < w.heap.size) :
    RowKit.Below B w (sortWorld enc w blk off m dk os) :=
  ⟨rfl, rfl, rfl, by simp [sortWorld], fun k hk => sortWorld_block enc w blk off m dk os k (by omega) (by omega)⟩

set_option maxHeartbeats 1000000 in
theorem sort_any (b1 ba off n c blk : Nat) (ms : List Int) (d : Array (Fin (n + 1))) (w : World) (hn : n + 1 ≤ 1024) (hd : d.size = n + 1)
    (h0 : w.cell? ⟨b1, 0, none⟩ = some (.slice (some ⟨ba, off, none⟩) (n + 1) c)) (h1 : ∀ i, i < n + 1 → w.cell? ⟨ba, off + i, none⟩ = some (.int .i64 (ms[i]?.getD 0)))
    (hb1 : b1 ≠ blk) (hba : ba ≠ blk) (hblk : blk < w.heap.size) (hH : Holds (encF n) w blk 0 d) :
    Calls Yba.prog 17 #[.slice (some ⟨blk, 0, none⟩) (n + 1) (n + 1), .func (.func 18) #[] #[.pointer (some ⟨b1, 0, none⟩)]] w fun e w' =>
      e = .returned (.tuple #[]) ∧ ∃ d' q os, PermIn 0 d.size d d' ∧ SortedIn (ltOf (cfF ms n)) 0 d.size d' ∧ w' = sortWorld (encF n) w blk 0 q d' os := by
  have eg : ∀ args w, (callFunc 18 args).run Yba.prog w = .ok (.enter 18 args) w := enters_of Yba.func18 (by kernel_rfl) rfl
  have hl1 := World.block_lt_of_cell? w _ h0
  have hl2 := World.block_lt_of_cell? w _ (h1 0 (by omega))
  have hcmp : CmpLays1 Yba.prog 18 #[.pointer (some ⟨b1, 0, none⟩)] (encF n) (cfF ms n) blk 0 d.size w := by
    intro m os dk _ x y
    have k0 : (sortWorld (encF n) w blk 0 m dk os).cell? ⟨b1, 0, none⟩ = some (.slice (some ⟨ba, off, none⟩) (n + 1) c) := by
      rw [World.cell?_of_block (w := w) (a := ⟨b1, 0, none⟩) (sortWorld_block _ _ _ _ _ _ _ b1 hl1 hb1)]; exact h0
    have k1 : ∀ i, i < n + 1 → (sortWorld (encF n) w blk 0 m dk os).cell? ⟨ba, off + i, none⟩ = some (.int .i64 (ms[i]?.getD 0)) := fun i hi => by
      rw [World.cell?_of_block (w := w) (a := ⟨ba, off + i, none⟩) (sortWorld_block _ _ _ _ _ _ _ ba hl2 hba)]; exact h1 i hi
    exact closure_any b1 ba off (n + 1) c x.val y.val _ _ _ x.isLt y.isLt k0 (k1 x.val x.isLt) (k1 y.val y.isLt)
  have := Yba.slices_SortFunc (encF n) (fun _ => rfl) (cfF ms n) (cfF_swo ms n) 18 #[.pointer (some ⟨b1, 0, none⟩)] blk 0 (n + 1) d w eg hcmp hH hblk (by omega)
  rw [hd] at this ⊢
  exact this
end Go.Proofs.Ybulkbvao
