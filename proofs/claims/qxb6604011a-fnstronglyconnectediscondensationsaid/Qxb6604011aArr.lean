import Derived.WalkKit
import Derived.Deep.OwnRows
import Derived.Deep.Draws
namespace Go.Proofs.Qxb6604011a
open Go.RowKit Go.Deep

/-! ROWS OF THE CALL's OWN: block b holds 'cap' cells of type t, none frozen, the first n of which are f 0 .. f (n-1). -/
def Arr (w : World) (b : Nat) (t : TypeId) (cap n : Nat) (f : Nat → Value) : Prop :=
  ∃ c : Array Value, w.heap[b]? = some (.cells c t (0, 0)) ∧ c.size = cap ∧ n ≤ cap ∧ ∀ i, i < n → c[i]? = some (f i)

namespace Arr
variable {w w' : World} {b : Nat} {t : TypeId} {cap n : Nat} {f g : Nat → Value}
theorem cell (h : Arr w b t cap n f) {i : Nat} (hi : i < n) : w.cell? ⟨b, i, none⟩ = some (f i) := by
  obtain ⟨c, hb, _, _, hc⟩ := h
  simp [World.cell?, hb, hc i hi]
theorem frozen (h : Arr w b t cap n f) (i : Nat) : w.frozen? ⟨b, i, none⟩ = false := by
  obtain ⟨c, hb, _⟩ := h
  simp [World.frozen?, hb]
theorem lt (h : Arr w b t cap n f) : b < w.heap.size := by
  obtain ⟨c, hb, _⟩ := h
  exact (Array.getElem?_eq_some_iff.1 hb).1
theorem le (h : Arr w b t cap n f) : n ≤ cap := by
  obtain ⟨c, _, _, h, _⟩ := h
  exact h
theorem congr (h : Arr w b t cap n f) (e : ∀ i, i < n → f i = g i) : Arr w b t cap n g := by
  obtain ⟨c, hb, hs, hn, hc⟩ := h
  exact ⟨c, hb, hs, hn, fun i hi => by rw [hc i hi, e i hi]⟩
theorem less {m : Nat} (h : Arr w b t cap n f) (hm : m ≤ n) : Arr w b t cap m f := by
  obtain ⟨c, hb, hs, hn, hc⟩ := h
  exact ⟨c, hb, hs, by omega, fun i hi => hc i (by omega)⟩
theorem of_block (h : Arr w b t cap n f) (e : w'.heap[b]? = w.heap[b]?) : Arr w' b t cap n f := by
  obtain ⟨c, hb, hs, hn, hc⟩ := h
  exact ⟨c, e.trans hb, hs, hn, hc⟩
theorem set (h : Arr w b t cap n f) (i : Nat) (v : Value) : Arr (w.setCell ⟨b, i, none⟩ v) b t cap n (fun j => if j = i then v else f j) := by
  obtain ⟨c, hb, hs, hn, hc⟩ := h
  refine ⟨c.setIfInBounds i v, ?_, by simpa using hs, hn, fun j hj => ?_⟩
  · simp [World.setCell, Array.getElem?_modify, hb]
  · rw [Array.getElem?_setIfInBounds]
    by_cases e : j = i
    · subst e
      rw [if_pos rfl, if_pos (by omega)]
      simp
    · rw [if_neg (fun h => e h.symm)]
      show c[j]? = some (if j = i then v else f j)
      rw [if_neg e]
      exact hc j hj
theorem setOther (h : Arr w b t cap n f) {a : Addr} (ha : b ≠ a.block) (v : Value) : Arr (w.setCell a v) b t cap n f := h.of_block (blk_setCell_other _ _ _ _ ha)
theorem alloc (h : Arr w b t cap n f) (o : Obj) : Arr (w.alloc o) b t cap n f := h.of_block (blk_alloc_lt _ _ _ h.lt)
theorem drew (h : Arr w b t cap n f) : Arr w.drew b t cap n f := h
theorem grown {row : Option Nat} (h : Arr w b t cap n f) (hg : w.grownBy w' row) (hne : some b ≠ row) : Arr w' b t cap n f := h.of_block (hg.block b h.lt hne)
theorem below {B : Nat} (h : Arr w b t cap n f) (hb : Below B w w') (hlt : b < B) : Arr w' b t cap n f := h.of_block (hb.block b hlt)
theorem owns (h : Arr w b t cap n f) {base : Nat} (hbase : base ≤ b) (hm : cap ≤ maxLen) : w.ownsRow base t 1 (.slice (some ⟨b, 0, none⟩) n cap) n ((List.range n).map f) := by
  obtain ⟨c, hb, hs, hn, hc⟩ := h
  refine ⟨by simp, .inr ⟨b, cap, c, rfl, hbase, hb, hn, hm, by omega, ?_⟩⟩
  apply List.ext_getElem?
  intro i
  rw [List.getElem?_take]
  by_cases hi : i < n
  · rw [if_pos (by omega), Array.getElem?_toList, hc i hi]
    simp [hi]
  · rw [if_neg (by omega)]
    simp [hi]
theorem of_owns {base : Nat} {v : Value} {xs : List Value} (h : w.ownsRow base t 1 v n xs) (hv : v ≠ .slice none 0 0) :
    ∃ b cap, v = .slice (some ⟨b, 0, none⟩) n cap ∧ base ≤ b ∧ cap ≤ maxLen ∧ Arr w b t cap n (fun i => xs.getD i undef) := by
  obtain ⟨hl, ⟨rfl, _⟩ | ⟨g, cap, cur, rfl, hb, hg, hn, hm, hs, ht⟩⟩ := h
  · exact absurd rfl hv
  · refine ⟨g, cap, rfl, hb, hm, cur, hg, by omega, hn, fun i hi => ?_⟩
    have e : cur[i]? = xs[i]? := by
      rw [← ht, List.getElem?_take, if_pos (by omega), Array.getElem?_toList]
    rw [e]
    simp only [List.getD_eq_getElem?_getD, List.getElem?_eq_getElem (show i < xs.length by omega), Option.getD_some]
end Arr

theorem Arr_alloc (w : World) (c : Array Value) (t : TypeId) (f : Nat → Value) (hc : ∀ i, i < c.size → c[i]? = some (f i)) : Arr (w.alloc (.cells c t)) w.heap.size t c.size c.size f :=
  ⟨c, blk_alloc_new _ _, rfl, Nat.le_refl _, hc⟩
theorem Arr_made (w : World) (z : Value) (n : Nat) (t : TypeId) : Arr (w.alloc (.cells (madeCells #[z] n) t)) w.heap.size t n n (fun _ => z) :=
  ⟨_, blk_alloc_new _ _, size_madeCells _ _, Nat.le_refl _, fun i hi => by simp [madeCells, hi, Nat.mod_one]⟩

/-! WHAT A SLICE OF integers READS AS, wherever it lies: n numbers, f 0 .. f (n-1). -/
def Reads (k : IntKind) (w : World) (v : Value) (n : Nat) (f : Nat → Int) : Prop :=
  ∃ (ao : Option Addr) (cap : Nat), v = .slice ao n cap ∧ (ao = none → cap = 0 ∧ n = 0) ∧
    (0 < n → ∃ b off, ao = some ⟨b, off, none⟩ ∧ ∀ i, i < n → w.cell? ⟨b, off + i, none⟩ = some (.int k (f i)))

/-- The block that a reading looks into, if any, lies below B. -/
def Under (v : Value) (B : Nat) : Prop := ∀ b off n cap, v = .slice (some ⟨b, off, none⟩) n cap → 0 < n → b < B

theorem Reads.below {k : IntKind} {w w' : World} {v : Value} {n : Nat} {f : Nat → Int} {B : Nat} (h : Reads k w v n f) (hu : Under v B) (hb : Below B w w') : Reads k w' v n f := by
  obtain ⟨ao, cap, rfl, h1, h2⟩ := h
  refine ⟨ao, cap, rfl, h1, fun h0 => ?_⟩
  obtain ⟨b, off, rfl, h3⟩ := h2 h0
  exact ⟨b, off, rfl, fun i hi => (hb.cell (p := ⟨b, off + i, none⟩) (hu b off n cap rfl h0)).trans (h3 i hi)⟩
theorem Reads.under {k : IntKind} {w : World} {v : Value} {n : Nat} {f : Nat → Int} (h : Reads k w v n f) : Under v w.heap.size := by
  intro b off n' cap e h0
  obtain ⟨ao, cap', rfl, h1, h2⟩ := h
  simp only [Value.slice.injEq] at e
  obtain ⟨rfl, rfl, rfl⟩ := e
  obtain ⟨b', off', e, h3⟩ := h2 h0
  simp only [Option.some.injEq, Addr.mk.injEq, and_true] at e
  obtain ⟨rfl, rfl⟩ := e
  exact World.block_lt_of_cell? w ⟨b, off + 0, none⟩ (h3 0 h0)
theorem Reads.congr {k : IntKind} {w : World} {v : Value} {n : Nat} {f g : Nat → Int} (h : Reads k w v n f) (e : ∀ i, i < n → f i = g i) : Reads k w v n g := by
  obtain ⟨ao, cap, rfl, h1, h2⟩ := h
  refine ⟨ao, cap, rfl, h1, fun h0 => ?_⟩
  obtain ⟨b, off, rfl, h3⟩ := h2 h0
  exact ⟨b, off, rfl, fun i hi => by rw [h3 i hi, e i hi]⟩
theorem Reads.drewN {k : IntKind} {w : World} {v : Value} {n : Nat} {f : Nat → Int} (h : Reads k w v n f) (m : Nat) : Reads k (w.drewN m) v n f := by
  obtain ⟨ao, cap, rfl, h1, h2⟩ := h
  refine ⟨ao, cap, rfl, h1, fun h0 => ?_⟩
  obtain ⟨b, off, rfl, h3⟩ := h2 h0
  exact ⟨b, off, rfl, fun i hi => by rw [← h3 i hi]; rfl⟩
/-- A cut of a row reads as its numbers do. -/
theorem Arr.reads {w : World} {b : Nat} {t : TypeId} {cap n : Nat} {k : IntKind} {f : Nat → Int} (h : Arr w b t cap n (fun i => .int k (f i))) (off m c : Nat) (hm : off + m ≤ n) :
    Reads k w (.slice (some ⟨b, off, none⟩) m c) m (fun i => f (off + i)) :=
  ⟨_, c, rfl, by simp, fun _ => ⟨b, off, rfl, fun i hi => h.cell (by omega)⟩⟩
theorem Reads_nil (k : IntKind) (w : World) (f : Nat → Int) : Reads k w (.slice none 0 0) 0 f := ⟨none, 0, rfl, fun _ => ⟨rfl, rfl⟩, fun h => absurd h (by omega)⟩
end Go.Proofs.Qxb6604011a
