import Derived.Test.Qxb6603934aNormVal
import Derived.Test.Qxb6603934aNormCarry
namespace Go.Proofs.Qxb6603934a.Norm
open Go.RowKit Go.Deep

/-- Block B is a 'wide': its limbs, low, pending, owner. -/
def Wide (w : World) (B : Nat) (v : Value) (low pend : Int) : Prop :=
  ∃ ow, w.heap[B]? = some (.cells #[v, .int .i64 low, .int .i64 pend, ow] 42 (0, 0))

namespace Wide
variable {w w' : World} {B : Nat} {v : Value} {low pend : Int}
theorem cell0 (h : Wide w B v low pend) : w.cell? ⟨B, 0, none⟩ = some v := by
  obtain ⟨ow, h⟩ := h; simp [World.cell?, h]
theorem cell1 (h : Wide w B v low pend) : w.cell? ⟨B, 1, none⟩ = some (.int .i64 low) := by
  obtain ⟨ow, h⟩ := h; simp [World.cell?, h]
theorem cell2 (h : Wide w B v low pend) : w.cell? ⟨B, 2, none⟩ = some (.int .i64 pend) := by
  obtain ⟨ow, h⟩ := h; simp [World.cell?, h]
theorem frozen (h : Wide w B v low pend) (i : Nat) : w.frozen? ⟨B, i, none⟩ = false := by
  obtain ⟨ow, h⟩ := h; simp [World.frozen?, h]
theorem lt (h : Wide w B v low pend) : B < w.heap.size := by
  obtain ⟨ow, h⟩ := h; exact (Array.getElem?_eq_some_iff.1 h).1
theorem of_block (h : Wide w B v low pend) (e : w'.heap[B]? = w.heap[B]?) : Wide w' B v low pend := by
  obtain ⟨ow, h⟩ := h; exact ⟨ow, e.trans h⟩
theorem set0 (h : Wide w B v low pend) (u : Value) : Wide (w.setCell ⟨B, 0, none⟩ u) B u low pend := by
  obtain ⟨ow, h⟩ := h; exact ⟨ow, by simp [World.setCell, Array.getElem?_modify, h]⟩
theorem set1 (h : Wide w B v low pend) (u : Int) : Wide (w.setCell ⟨B, 1, none⟩ (.int .i64 u)) B v u pend := by
  obtain ⟨ow, h⟩ := h; exact ⟨ow, by simp [World.setCell, Array.getElem?_modify, h]⟩
theorem set2 (h : Wide w B v low pend) (u : Int) : Wide (w.setCell ⟨B, 2, none⟩ (.int .i64 u)) B v low u := by
  obtain ⟨ow, h⟩ := h; exact ⟨ow, by simp [World.setCell, Array.getElem?_modify, h]⟩
theorem drew (h : Wide w B v low pend) : Wide w.drew B v low pend := h
theorem alloc (h : Wide w B v low pend) (o : Obj) : Wide (w.alloc o) B v low pend := h.of_block (blk_alloc_lt _ _ _ h.lt)
theorem grown {row : Option Nat} (h : Wide w B v low pend) (hg : w.grownBy w' row) (hne : some B ≠ row) : Wide w' B v low pend := h.of_block (hg.block B h.lt hne)
theorem ne (h : Wide w B v low pend) {g cap n : Nat} {f : Nat → Value} (hA : Arr w g 2 cap n f) : g ≠ B := by
  rintro rfl
  obtain ⟨ow, h⟩ := h
  obtain ⟨c, hc, _⟩ := hA
  rw [h] at hc
  simp at hc
end Wide

/-- All blocks but B and g are as they were when the call began. -/
structure Kept (B g : Nat) (w w' : World) : Prop where
  os : w'.os = w.os
  tape : w'.tape = w.tape
  output : w'.output = w.output
  size : w.heap.size ≤ w'.heap.size
  block : ∀ k, k < w.heap.size → k ≠ B → k ≠ g → w'.heap[k]? = w.heap[k]?
namespace Kept
variable {B g : Nat} {w w' w'' : World}
theorem refl (B g : Nat) (w : World) : Kept B g w w := ⟨rfl, rfl, rfl, Nat.le_refl _, fun _ _ _ _ => rfl⟩
theorem setB (h : Kept B g w w') (i : Nat) (u : Value) : Kept B g w (w'.setCell ⟨B, i, none⟩ u) :=
  ⟨h.os, h.tape, h.output, by rw [nblk_setCell]; exact h.size, fun k hk h1 h2 => by
    rw [blk_setCell_other _ _ _ _ (by intro e; exact h1 e)]
    exact h.block k hk h1 h2⟩
theorem drew (h : Kept B g w w') : Kept B g w w'.drew := ⟨h.os, h.tape, h.output, h.size, h.block⟩
theorem alloc (h : Kept B g w w') (o : Obj) : Kept B g w (w'.alloc o) :=
  ⟨h.os, h.tape, h.output, by rw [nblk_alloc]; have := h.size; omega, fun k hk h1 h2 => by
    rw [blk_alloc_lt _ _ _ (by have := h.size; omega)]
    exact h.block k hk h1 h2⟩
/-- A row turned that is g's, or one made since. -/
theorem grown {row : Option Nat} (h : Kept B g w w') (hg : w'.grownBy w'' row) (hr : ∀ k, row = some k → k = g ∨ w.heap.size ≤ k) : Kept B g w w'' :=
  ⟨hg.os.trans h.os, hg.tape.trans h.tape, hg.output.trans h.output, Nat.le_trans h.size hg.size, fun k hk h1 h2 => by
    rw [hg.block k (by have := h.size; omega) (fun e => by rcases hr k e.symm with e | e; exact h2 e; omega)]
    exact h.block k hk h1 h2⟩
end Kept
end Go.Proofs.Qxb6603934a.Norm
