import Derived.Test.Qxb6604011aRows
import Derived.Test.Qxb6604011aTarjan
import Derived.Test.Qxb6604011aArr
import Derived.Test.Qxb6604011aAppend
namespace Go.Proofs.Qxb6604011a.Scc
open Go.RowKit Go.Deep

theorem info3 : (Try.prog.info? 3).map (fun i => (i.zero, i.size, i.bytes)) = some (some (.int .i64 0), 1, 8) := by kernel_rfl
theorem info4 : (Try.prog.info? 4).map (fun i => (i.zero, i.size, i.bytes)) = some (some (.bool false), 1, 1) := by kernel_rfl
theorem info24 : (Try.prog.info? 24).map (fun i => (i.zero, i.size, i.bytes)) = some (some (.slice none 0 0), 1, 24) := by kernel_rfl
theorem info35 : (Try.prog.info? 35).map (fun i => (i.zero, i.size, i.bytes)) = some (some (.agg #[.int .i64 0, .int .i64 0]), 2, 16) := by kernel_rfl

theorem arr_ne {w : World} {b b' : Nat} {t t' : TypeId} {cap cap' n n' : Nat} {f f' : Nat → Value} (h : Arr w b t cap n f) (h' : Arr w b' t' cap' n' f') (hne : t ≠ t') : b ≠ b' := by
  rintro rfl
  obtain ⟨c, hc, _⟩ := h
  obtain ⟨c', hc', _⟩ := h'
  rw [hc] at hc'
  simp only [Option.some.injEq, Obj.cells.injEq] at hc'
  exact hne hc'.2.1

/-- A slice of ints that the call has built by append: xs, in the order of memory; its row lies from 'lo' on. -/
def Ints (wr : World) (lo : Nat) (v : Value) (xs : List Nat) : Prop :=
  (v = .slice none 0 0 ∧ xs = []) ∨ ∃ g cap, v = .slice (some ⟨g, 0, none⟩) xs.length cap ∧ lo ≤ g ∧ cap ≤ maxLen ∧ Arr wr g 3 cap xs.length (fun i => .int .i64 (xs.getD i 0 : Nat))

theorem Ints.block {wr w' : World} {lo : Nat} {v : Value} {xs : List Nat} (h : Ints wr lo v xs) (hb : ∀ k, v.ownBlock = some k → w'.heap[k]? = wr.heap[k]?) : Ints w' lo v xs := by
  rcases h with h | ⟨g, cap, rfl, hl, hc, hA⟩
  · exact Or.inl h
  · exact Or.inr ⟨g, cap, rfl, hl, hc, hA.of_block (hb g rfl)⟩
theorem Ints.lt {wr : World} {lo : Nat} {v : Value} {xs : List Nat} (h : Ints wr lo v xs) : ∀ k, v.ownBlock = some k → lo ≤ k ∧ k < wr.heap.size := by
  rcases h with ⟨rfl, rfl⟩ | ⟨g, cap, rfl, hl, hc, hA⟩
  · intro k hk; simp [Value.ownBlock] at hk
  · intro k hk; simp [Value.ownBlock] at hk; subst hk; exact ⟨hl, hA.lt⟩

/-- What append leaves of a slice of ints, the element being laid in block 'wr.alloc o'. -/
theorem Ints.push {wr : World} {lo : Nat} {v : Value} {xs : List Nat} (h : Ints wr lo v xs) {o : Obj} {x : Nat} {v' : Value} {w1 : World} (hlo : lo ≤ wr.heap.size)
    (ha : Appended (wr.alloc o) v.ownBlock 3 1 xs.length 1 (fun i => .int .i64 (xs.getD i 0 : Nat)) [.int .i64 x] v' w1) :
    Ints w1 lo v' (xs ++ [x]) ∧ (v'.ownBlock = v.ownBlock ∨ ∃ k, v'.ownBlock = some k ∧ wr.heap.size < k) ∧ ∃ g cap, v' = .slice (some ⟨g, 0, none⟩) (xs.length + 1) cap := by
  obtain ⟨g', cap', rfl, hA, hc, hm, hr, hg⟩ := ha
  have hA' : Arr w1 g' 3 cap' (xs ++ [x]).length (fun i => .int .i64 ((xs ++ [x]).getD i 0 : Nat)) := by
    simp only [Nat.mul_one] at hA
    rw [List.length_append]
    refine hA.congr (fun i hi => ?_)
    by_cases e : i < xs.length
    · simp [e, List.getElem?_append_left e]
    · have e2 : i = xs.length := by omega
      subst e2
      simp
  refine ⟨Or.inr ⟨g', cap', by simp, ?_, hm, hA'⟩, ?_, g', cap', rfl⟩
  · rcases hr with e | e
    · have := (h.lt g' e.symm).1
      exact this
    · rw [nblk_alloc] at e; omega
  · rcases hr with e | e
    · left; rw [← e]; rfl
    · right; exact ⟨g', rfl, by rw [nblk_alloc] at e; omega⟩

/-- The variables of stronglyConnected: blocks B .. B + 7. -/
structure Mem (w0 : World) (B n : Nat) (wr : World) (ord low : Nat → Int) (on : Nat → Bool) (stk : List Nat) (sv : Value) (nxt : Nat) : Prop where
  below : Below B w0 wr
  size : B + 8 ≤ wr.heap.size
  a_ord : Arr wr B 3 n n (fun i => .int .i64 (ord i))
  v_ord : Arr wr (B + 1) 24 1 1 (fun _ => .slice (some ⟨B, 0, none⟩) n n)
  a_low : Arr wr (B + 2) 3 n n (fun i => .int .i64 (low i))
  v_low : Arr wr (B + 3) 24 1 1 (fun _ => .slice (some ⟨B + 2, 0, none⟩) n n)
  a_on : Arr wr (B + 4) 4 n n (fun i => .bool (on i))
  v_on : Arr wr (B + 5) 30 1 1 (fun _ => .slice (some ⟨B + 4, 0, none⟩) n n)
  v_stk : Arr wr (B + 6) 24 1 1 (fun _ => sv)
  v_nxt : Arr wr (B + 7) 3 1 1 (fun _ => .int .i64 nxt)
  stack : Ints wr (B + 8) sv stk.reverse

section
variable {w0 wr w' : World} {B n : Nat} {ord low : Nat → Int} {on : Nat → Bool} {stk : List Nat} {sv : Value} {nxt : Nat}

/-- A step that turns none of the blocks B .. B + 7 and not the stack's row. -/
theorem Mem.step (h : Mem w0 B n wr ord low on stk sv nxt) (hb : Below B w0 w') (hs : B + 8 ≤ w'.heap.size) (hlow : ∀ k, k < B + 8 → w'.heap[k]? = wr.heap[k]?) (hst : ∀ k, sv.ownBlock = some k → w'.heap[k]? = wr.heap[k]?) :
    Mem w0 B n w' ord low on stk sv nxt :=
  ⟨hb, hs, h.a_ord.of_block (hlow _ (by omega)), h.v_ord.of_block (hlow _ (by omega)), h.a_low.of_block (hlow _ (by omega)), h.v_low.of_block (hlow _ (by omega)), h.a_on.of_block (hlow _ (by omega)), h.v_on.of_block (hlow _ (by omega)),
    h.v_stk.of_block (hlow _ (by omega)), h.v_nxt.of_block (hlow _ (by omega)), h.stack.block hst⟩
theorem Mem.alloc (h : Mem w0 B n wr ord low on stk sv nxt) (o : Obj) : Mem w0 B n (wr.alloc o) ord low on stk sv nxt :=
  h.step (h.below.alloc (by have := h.size; omega) o) (by rw [nblk_alloc]; have := h.size; omega) (fun k hk => blk_alloc_lt _ _ _ (by have := h.size; omega)) (fun k hk => blk_alloc_lt _ _ _ (h.stack.lt k hk).2)
theorem Mem.drew (h : Mem w0 B n wr ord low on stk sv nxt) : Mem w0 B n wr.drew ord low on stk sv nxt :=
  h.step h.below.drew h.size (fun _ _ => rfl) (fun _ _ => rfl)
/-- Behind an append to some other row. -/
theorem Mem.grown {row : Option Nat} (h : Mem w0 B n wr ord low on stk sv nxt) (hg : wr.grownBy w' row) (hr : ∀ k, row = some k → B + 8 ≤ k ∧ some k ≠ sv.ownBlock) : Mem w0 B n w' ord low on stk sv nxt :=
  h.step (h.below.grown hg (by have := h.size; omega) (fun k hk => by have := (hr k hk).1; omega)) (by have := h.size; have := hg.size; omega)
    (fun k hk => hg.block k (by have := h.size; omega) (fun e => by have := (hr k e.symm).1; omega)) (fun k hk => hg.block k (h.stack.lt k hk).2 (fun e => (hr k e.symm).2 hk.symm))
/-- A store into a block from B + 8 on that is not the stack's. -/
theorem Mem.setOther (h : Mem w0 B n wr ord low on stk sv nxt) (a : Addr) (u : Value) (ha : B + 8 ≤ a.block) (hne : some a.block ≠ sv.ownBlock) : Mem w0 B n (wr.setCell a u) ord low on stk sv nxt :=
  h.step (h.below.setCell (by omega) u) (by rw [nblk_setCell]; exact h.size) (fun k hk => blk_setCell_other _ _ _ _ (by omega)) (fun k hk => blk_setCell_other _ _ _ _ (fun e => hne (by rw [hk, e])))

theorem Mem.setOrd (h : Mem w0 B n wr ord low on stk sv nxt) (v : Nat) (x : Int) : Mem w0 B n (wr.setCell ⟨B, v, none⟩ (.int .i64 x)) (upd ord v x) low on stk sv nxt := by
  have hk : ∀ k, B < k → (wr.setCell ⟨B, v, none⟩ (.int .i64 x)).heap[k]? = wr.heap[k]? := fun k hk => blk_setCell_other _ _ _ _ (by show k ≠ B; omega)
  refine ⟨h.below.setCell (Nat.le_refl _) _, by rw [nblk_setCell]; exact h.size, (h.a_ord.set v _).congr (fun i _ => ?_), h.v_ord.of_block (hk _ (by omega)), h.a_low.of_block (hk _ (by omega)), h.v_low.of_block (hk _ (by omega)),
    h.a_on.of_block (hk _ (by omega)), h.v_on.of_block (hk _ (by omega)), h.v_stk.of_block (hk _ (by omega)), h.v_nxt.of_block (hk _ (by omega)), h.stack.block (fun k e => hk k (by have := (h.stack.lt k e).1; omega))⟩
  unfold upd; split <;> rfl
theorem Mem.setLow (h : Mem w0 B n wr ord low on stk sv nxt) (v : Nat) (x : Int) : Mem w0 B n (wr.setCell ⟨B + 2, v, none⟩ (.int .i64 x)) ord (upd low v x) on stk sv nxt := by
  have hk : ∀ k, k ≠ B + 2 → (wr.setCell ⟨B + 2, v, none⟩ (.int .i64 x)).heap[k]? = wr.heap[k]? := fun k hk => blk_setCell_other _ _ _ _ hk
  refine ⟨h.below.setCell (by show B ≤ B + 2; omega) _, by rw [nblk_setCell]; exact h.size, h.a_ord.of_block (hk _ (by omega)), h.v_ord.of_block (hk _ (by omega)), (h.a_low.set v _).congr (fun i _ => ?_), h.v_low.of_block (hk _ (by omega)),
    h.a_on.of_block (hk _ (by omega)), h.v_on.of_block (hk _ (by omega)), h.v_stk.of_block (hk _ (by omega)), h.v_nxt.of_block (hk _ (by omega)), h.stack.block (fun k e => hk k (by have := (h.stack.lt k e).1; omega))⟩
  unfold upd; split <;> rfl
theorem Mem.setOn (h : Mem w0 B n wr ord low on stk sv nxt) (v : Nat) (x : Bool) : Mem w0 B n (wr.setCell ⟨B + 4, v, none⟩ (.bool x)) ord low (upd on v x) stk sv nxt := by
  have hk : ∀ k, k ≠ B + 4 → (wr.setCell ⟨B + 4, v, none⟩ (.bool x)).heap[k]? = wr.heap[k]? := fun k hk => blk_setCell_other _ _ _ _ hk
  refine ⟨h.below.setCell (by show B ≤ B + 4; omega) _, by rw [nblk_setCell]; exact h.size, h.a_ord.of_block (hk _ (by omega)), h.v_ord.of_block (hk _ (by omega)), h.a_low.of_block (hk _ (by omega)), h.v_low.of_block (hk _ (by omega)),
    (h.a_on.set v _).congr (fun i _ => ?_), h.v_on.of_block (hk _ (by omega)), h.v_stk.of_block (hk _ (by omega)), h.v_nxt.of_block (hk _ (by omega)), h.stack.block (fun k e => hk k (by have := (h.stack.lt k e).1; omega))⟩
  unfold upd; split <;> rfl
theorem Mem.setNxt (h : Mem w0 B n wr ord low on stk sv nxt) (x : Nat) : Mem w0 B n (wr.setCell ⟨B + 7, 0, none⟩ (.int .i64 x)) ord low on stk sv x := by
  have hk : ∀ k, k ≠ B + 7 → (wr.setCell ⟨B + 7, 0, none⟩ (.int .i64 x)).heap[k]? = wr.heap[k]? := fun k hk => blk_setCell_other _ _ _ _ hk
  refine ⟨h.below.setCell (by show B ≤ B + 7; omega) _, by rw [nblk_setCell]; exact h.size, h.a_ord.of_block (hk _ (by omega)), h.v_ord.of_block (hk _ (by omega)), h.a_low.of_block (hk _ (by omega)), h.v_low.of_block (hk _ (by omega)),
    h.a_on.of_block (hk _ (by omega)), h.v_on.of_block (hk _ (by omega)), h.v_stk.of_block (hk _ (by omega)), (h.v_nxt.set 0 _).congr (fun i hi => ?_), h.stack.block (fun k e => hk k (by have := (h.stack.lt k e).1; omega))⟩
  have : i = 0 := by omega
  subst this; simp
/-- The stack's variable turned: the new slice holds what it shall. -/
theorem Mem.setStk (h : Mem w0 B n wr ord low on stk sv nxt) (sv' : Value) (stk' : List Nat) (hs : Ints wr (B + 8) sv' stk'.reverse) : Mem w0 B n (wr.setCell ⟨B + 6, 0, none⟩ sv') ord low on stk' sv' nxt := by
  have hk : ∀ k, k ≠ B + 6 → (wr.setCell ⟨B + 6, 0, none⟩ sv').heap[k]? = wr.heap[k]? := fun k hk => blk_setCell_other _ _ _ _ hk
  refine ⟨h.below.setCell (by show B ≤ B + 6; omega) _, by rw [nblk_setCell]; exact h.size, h.a_ord.of_block (hk _ (by omega)), h.v_ord.of_block (hk _ (by omega)), h.a_low.of_block (hk _ (by omega)), h.v_low.of_block (hk _ (by omega)),
    h.a_on.of_block (hk _ (by omega)), h.v_on.of_block (hk _ (by omega)), (h.v_stk.set 0 _).congr (fun i hi => ?_), h.v_nxt.of_block (hk _ (by omega)), hs.block (fun k e => hk k (by have := (hs.lt k e).1; omega))⟩
  have : i = 0 := by omega
  subst this; simp
/-- Behind an append to the stack's own row, its variable not yet turned: everything but the stack. -/
theorem Mem.pushed (h : Mem w0 B n wr ord low on stk sv nxt) (hg : wr.grownBy w' sv.ownBlock) (sv' : Value) (stk' : List Nat) (hs : Ints w' (B + 8) sv' stk'.reverse) :
    Mem w0 B n (w'.setCell ⟨B + 6, 0, none⟩ sv') ord low on stk' sv' nxt := by
  have hk : ∀ k, k < B + 8 → w'.heap[k]? = wr.heap[k]? := fun k hk => hg.block k (by have := h.size; omega) (fun e => by have := (h.stack.lt k e.symm).1; omega)
  have hb : Below B w0 w' := h.below.grown hg (by have := h.size; omega) (fun k e => by have := (h.stack.lt k e).1; omega)
  have hm : ∀ k, k ≠ B + 6 → (w'.setCell ⟨B + 6, 0, none⟩ sv').heap[k]? = w'.heap[k]? := fun k hk => blk_setCell_other _ _ _ _ hk
  refine ⟨hb.setCell (by show B ≤ B + 6; omega) _, by rw [nblk_setCell]; have := h.size; have := hg.size; omega, h.a_ord.of_block ((hm _ (by omega)).trans (hk _ (by omega))), h.v_ord.of_block ((hm _ (by omega)).trans (hk _ (by omega))),
    h.a_low.of_block ((hm _ (by omega)).trans (hk _ (by omega))), h.v_low.of_block ((hm _ (by omega)).trans (hk _ (by omega))), h.a_on.of_block ((hm _ (by omega)).trans (hk _ (by omega))), h.v_on.of_block ((hm _ (by omega)).trans (hk _ (by omega))),
    ((h.v_stk.of_block (hk _ (by omega))).set 0 _).congr (fun i hi => ?_), h.v_nxt.of_block ((hm _ (by omega)).trans (hk _ (by omega))), hs.block (fun k e => hm k (by have := (hs.lt k e).1; omega))⟩
  have : i = 0 := by omega
  subst this; simp
end
end Go.Proofs.Qxb6604011a.Scc
