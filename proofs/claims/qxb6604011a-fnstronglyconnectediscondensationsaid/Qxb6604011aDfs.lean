import Derived.Test.Qxb6604011aRev
import Derived.Deep.LoopGhost
namespace Go.Proofs.Qxb6604011a.Scc
open Go.RowKit Go.Deep

/-! How much of its group a root reaches: the plain law. -/
theorem nodup_sub : ∀ (l m : List Nat), l.Nodup → (∀ x, x ∈ l → x ∈ m) → l.length ≤ m.length
  | [], _, _, _ => Nat.zero_le _
  | a :: l, m, hn, hs => by
    rw [List.nodup_cons] at hn
    have ha := hs a List.mem_cons_self
    have h1 := nodup_sub l (m.erase a) hn.2 (fun x hx => (List.mem_erase_of_ne (fun e : x = a => hn.1 (by rw [← e]; exact hx))).2 (hs x (List.mem_cons_of_mem _ hx)))
    rw [List.length_erase_of_mem ha] at h1
    have : 0 < m.length := List.length_pos_of_mem ha
    simp only [List.length_cons]
    omega

/-- Whatever holds the root and is closed within the group holds the whole group. -/
def Whole (n : Nat) (d : Nat → Nat) (nb : Nat → Nat → Nat) (c : Nat → Int) (g : Int) (root : Nat) : Prop :=
  ∀ S : List Nat, root ∈ S → (∀ v, v ∈ S → v < n ∧ c v = g) → (∀ v, v ∈ S → ∀ j, j < d v → c (nb v j) = g → nb v j ∈ S) → ∀ v, c v = g → v ∈ S
section
variable {n : Nat} {deg d : Nat → Nat} {tg nb : Nat → Nat → Nat} {c : Nat → Int} {grp : List (List Nat)} {root : Nat} {g : Int}
theorem Groups.forward (h : Groups n deg tg c grp) (hr : root < n) (hg : c root = g) : Whole n deg tg c g root := by
  intro S hS hm hc v hv
  have h0 := h.part.all root hr
  obtain ⟨k, hk⟩ := h.scc root v h0 (by rw [hg, hv])
  have main : ∀ (k u : Nat), Steps deg tg k u v → u ∈ S → v ∈ S := by
    intro k
    induction k with
    | zero => intro u hs hu; have e : u = v := hs; rw [← e]; exact hu
    | succ k ih =>
      rintro u ⟨x, ⟨j, hj, hx⟩, hs⟩ hu
      have hu2 := (hm u hu).2
      have h1 := h.cls u (by omega) j hj
      rw [hx] at h1
      have h2 := h.down k x v hs h1.1
      refine ih x hs ?_
      rw [← hx]
      exact hc u hu j hj (by rw [hx]; omega)
  exact main k root hk hS
theorem Groups.backward (h : Groups n deg tg c grp) (hr : root < n) (hg : c root = g) (he : ∀ i x, i < n → (Edge d nb i x ↔ (x < n ∧ Edge deg tg x i))) : Whole n d nb c g root := by
  intro S hS hm hc v hv
  have h0 := h.part.all root hr
  obtain ⟨k, hk⟩ := h.scc v root (by omega) (by rw [hg, hv])
  have main : ∀ (k u : Nat), Steps deg tg k u root → c u = g → u ∈ S := by
    intro k
    induction k with
    | zero => intro u hs _; have e : u = root := hs; rw [e]; exact hS
    | succ k ih =>
      rintro u ⟨x, ⟨j, hj, hx⟩, hs⟩ hu
      have hun := (h.part.lt u (by omega)).1
      have h1 := h.cls u (by omega) j hj
      rw [hx] at h1
      have h2 := h.down k x root hs h1.1
      have hxS := ih x hs (by omega)
      obtain ⟨j', hj', hx'⟩ := (he x u (hm x hxS).1).2 ⟨hun, j, hj, hx⟩
      rw [← hx']
      exact hc x hxS j' hj' (by rw [hx']; exact hu)
  exact main k v hk hv
end

/-! How it lies in memory. -/
/-- Everything stands but block sb and what is made anew. -/
structure Kept (lo sb : Nat) (w wr : World) : Prop where
  below : Below lo w wr
  keep : ∀ k, k < w.heap.size → k ≠ sb → wr.heap[k]? = w.heap[k]?
section
variable {lo sb : Nat} {w wr w' : World}
theorem Kept.refl (lo sb : Nat) (w : World) : Kept lo sb w w := ⟨Below.refl _ _, fun _ _ _ => rfl⟩
theorem Kept.alloc (h : Kept lo sb w wr) (hlo : lo ≤ w.heap.size) (o : Obj) : Kept lo sb w (wr.alloc o) :=
  ⟨h.below.alloc (Nat.le_trans hlo h.below.size) o, fun k hk hne => (blk_alloc_lt _ _ _ (Nat.lt_of_lt_of_le hk h.below.size)).trans (h.keep k hk hne)⟩
theorem Kept.set (h : Kept lo sb w wr) (hlo : lo ≤ sb) (i : Nat) (u : Value) : Kept lo sb w (wr.setCell ⟨sb, i, none⟩ u) :=
  ⟨h.below.setCell hlo u, fun k hk hne => (blk_setCell_other _ _ _ _ hne).trans (h.keep k hk hne)⟩
theorem Kept.grown (h : Kept lo sb w wr) {row : Option Nat} (hg : wr.grownBy w' row) (hlo : lo ≤ w.heap.size) (hr : ∀ k, row = some k → w.heap.size ≤ k) : Kept lo sb w w' :=
  ⟨h.below.grown hg (Nat.le_trans hlo h.below.size) (fun k hk => Nat.le_trans hlo (hr k hk)), fun k hk hne => (hg.block k (Nat.lt_of_lt_of_le hk h.below.size) (fun e => by have := hr k e.symm; omega)).trans (h.keep k hk hne)⟩
theorem Kept.cell (h : Kept lo sb w wr) {p : Addr} (hp : p.block < w.heap.size) (hne : p.block ≠ sb) : wr.cell? p = w.cell? p := World.cell?_of_block (w := w) (h.keep p.block hp hne)
theorem arr_off {b : Nat} {t : TypeId} {n : Nat} {f : Nat → Value} (h : Arr w b t n n f) {j : Nat} {v : Value} (hc : w.cell? ⟨b, j, none⟩ = some v) : ∃ i, v = f i := by
  obtain ⟨c, hb, hs, _, h4⟩ := h
  simp [World.cell?, hb] at hc
  obtain ⟨hj, _⟩ := Array.getElem?_eq_some_iff.1 hc
  have := h4 j (by omega)
  rw [hc] at this
  exact ⟨j, by simpa using this⟩
theorem Ints.top {v : Value} {x : Nat} {rest : List Nat} (h : Ints wr lo v (x :: rest).reverse) :
    ∃ g cap, v = .slice (some ⟨g, 0, none⟩) (rest.length + 1) cap ∧ wr.cell? ⟨g, rest.length, none⟩ = some (.int .i64 (x : Nat)) ∧ rest.length + 1 ≤ cap ∧ cap ≤ maxLen ∧ Ints wr lo (.slice (some ⟨g, 0, none⟩) rest.length cap) rest.reverse := by
  rcases h with ⟨_, h⟩ | ⟨g, cap, rfl, hl, hc, hA⟩
  · simp at h
  · have hA' := hA
    simp only [List.length_reverse, List.length_cons] at hA
    refine ⟨g, cap, by simp, ?_, hA.le, hc, Or.inr ⟨g, cap, by simp, hl, hc, ?_⟩⟩
    · rw [hA.cell (by omega)]
      simp
    · rw [List.length_reverse]
      refine (hA.less (m := rest.length) (by omega)).congr (fun i hi => ?_)
      rw [List.reverse_cons]
      simp [List.getElem?_append_left (show i < rest.reverse.length by simpa using hi)]
theorem Ints.none {v : Value} (h : Ints wr lo v [].reverse) : ∃ ao cap, v = .slice ao 0 cap := by
  rcases h with ⟨rfl, _⟩ | ⟨g, cap, rfl, _⟩
  · exact ⟨_, _, rfl⟩
  · exact ⟨_, _, rfl⟩
end

/-- What 'seen' holds: the groups below g whole, and of g the nodes met so far. -/
def sn (c : Nat → Int) (g : Int) (sl : List Nat) (i : Nat) : Bool := decide (c i < g) || decide (i ∈ sl)

/-- The walk from a root: 'sl' are the nodes met, 'stk' those still to be looked at (the top first); x is being looked at, its first k edges are through. -/
structure Dfs (lo sb : Nat) (w : World) (n : Nat) (d : Nat → Nat) (nb : Nat → Nat → Nat) (c : Nat → Int) (g : Int) (root : Nat) (sl stk : List Nat) (sv : Value) (x k : Nat) (wr : World) : Prop where
  kept : Kept lo sb w wr
  seen : Arr wr sb 4 n n (fun i => .bool (sn c g sl i))
  stack : Ints wr w.heap.size sv stk.reverse
  nd : sl.Nodup
  mem : ∀ v, v ∈ sl → v < n ∧ c v = g
  rt : root ∈ sl
  sub : ∀ v, v ∈ stk → v ∈ sl
  len : stk.length ≤ sl.length
  opn : ∀ v, v ∈ sl → v ∈ stk ∨ (∀ j, j < d v → c (nb v j) = g → nb v j ∈ sl) ∨ (v = x ∧ ∀ j, j < k → c (nb x j) = g → nb x j ∈ sl)

/-- What the call hands back. -/
def Reached (lo sb : Nat) (w : World) (n : Nat) (c : Nat → Int) (g : Int) (L : Nat) (e : Ending) (w' : World) : Prop :=
  e = .returned (.int .i64 (L : Nat)) ∧ Kept lo sb w w' ∧ Arr w' sb 4 n n (fun i => .bool (decide (c i < g + 1)))

section
variable {lo sb : Nat} {w wr : World} {n : Nat} {d : Nat → Nat} {nb : Nat → Nat → Nat} {c : Nat → Int} {g : Int} {root : Nat} {sl stk : List Nat} {sv : Value} {x k : Nat}
theorem Dfs.le (h : Dfs lo sb w n d nb c g root sl stk sv x k wr) : sl.length ≤ n := nodup_len n sl h.nd (fun v hv => (h.mem v hv).1)
theorem dfs_start (hA : Arr w sb 4 n n (fun i => .bool (decide (c i < g)))) (hlo : lo ≤ sb) (hr : root < n) (hg : c root = g) :
    Dfs lo sb w n d nb c g root [root] [root] (.slice (some ⟨w.heap.size, 0, none⟩) 1 1) n 0 ((w.setCell ⟨sb, root, none⟩ (.bool true)).alloc (.cells #[.int .i64 (root : Nat)] 3)) := by
  have hs := hA.lt
  refine ⟨((Kept.refl lo sb w).set hlo _ _).alloc (by omega) _, ((hA.set root _).alloc _).congr (fun i _ => ?_), Or.inr ⟨w.heap.size, 1, rfl, Nat.le_refl _, by unfold maxLen; omega, ?_⟩, by simp, fun v hv => ?_, by simp, fun v hv => hv, Nat.le_refl _, fun v hv => Or.inl hv⟩
  · unfold sn
    by_cases e : i = root
    · subst e; simp
    · simp [e]
  · have := Arr_alloc (w.setCell ⟨sb, root, none⟩ (.bool true)) #[.int .i64 (root : Nat)] 3 (fun i => .int .i64 (([root].reverse).getD i 0 : Nat)) (fun i hi => by
      have : i = 0 := by simp at hi; omega
      subst this; rfl)
    rw [nblk_setCell] at this
    exact this
  · simp at hv
    subst hv
    exact ⟨hr, hg⟩
/-- The top of the stack is taken. -/
theorem Dfs.pop {y : Nat} {rest : List Nat} (h : Dfs lo sb w n d nb c g root sl (y :: rest) sv n 0 wr) : ∃ b cap, sv = .slice (some ⟨b, 0, none⟩) (rest.length + 1) cap ∧ wr.cell? ⟨b, rest.length, none⟩ = some (.int .i64 (y : Nat)) ∧ rest.length + 1 ≤ cap ∧ cap ≤ maxLen ∧ y < n ∧ rest.length + 1 ≤ sl.length ∧
    Dfs lo sb w n d nb c g root sl rest (.slice (some ⟨b, 0, none⟩) rest.length cap) y 0 wr := by
  obtain ⟨b, cap, h1, h2, h3, h4, h5⟩ := h.stack.top
  have hl := h.len
  simp only [List.length_cons] at hl
  refine ⟨b, cap, h1, h2, h3, h4, (h.mem y (h.sub y List.mem_cons_self)).1, hl, h.kept, h.seen, h5, h.nd, h.mem, h.rt, fun v hv => h.sub v (List.mem_cons_of_mem _ hv), by omega, fun v hv => ?_⟩
  rcases h.opn v hv with h6 | h6 | h6
  · rcases List.mem_cons.1 h6 with e | h7
    · exact Or.inr (Or.inr ⟨e, fun j hj => absurd hj (by omega)⟩)
    · exact Or.inl h7
  · exact Or.inr (Or.inl h6)
  · have := (h.mem v hv).1
    omega
theorem Dfs.skip (h : Dfs lo sb w n d nb c g root sl stk sv x k wr) (hs : c (nb x k) = g → nb x k ∈ sl) : Dfs lo sb w n d nb c g root sl stk sv x (k + 1) wr := by
  refine ⟨h.kept, h.seen, h.stack, h.nd, h.mem, h.rt, h.sub, h.len, fun v hv => ?_⟩
  rcases h.opn v hv with h6 | h6 | ⟨e, h6⟩
  · exact Or.inl h6
  · exact Or.inr (Or.inl h6)
  · refine Or.inr (Or.inr ⟨e, fun j hj hc => ?_⟩)
    by_cases ej : j = k
    · subst ej; exact hs hc
    · exact h6 j (by omega) hc
theorem Dfs.leave (h : Dfs lo sb w n d nb c g root sl stk sv x (d x) wr) : Dfs lo sb w n d nb c g root sl stk sv n 0 wr := by
  refine ⟨h.kept, h.seen, h.stack, h.nd, h.mem, h.rt, h.sub, h.len, fun v hv => ?_⟩
  rcases h.opn v hv with h6 | h6 | ⟨e, h6⟩
  · exact Or.inl h6
  · exact Or.inr (Or.inl h6)
  · subst e; exact Or.inr (Or.inl h6)
/-- A node not met before: it is marked and laid on the stack. -/
theorem Dfs.push (h : Dfs lo sb w n d nb c g root sl stk sv x k wr) (hlo : lo ≤ sb) (hsb : sb < w.heap.size) {y : Nat} (hy : nb x k = y) (hyn : y < n) (hyc : c y = g) (hys : y ∉ sl) {o : Obj} {sv' : Value} {w5 : World}
    (ha : Appended ((wr.setCell ⟨sb, y, none⟩ (.bool true)).alloc o) sv.ownBlock 3 1 stk.length 1 (intf stk.reverse) [.int .i64 (y : Nat)] sv' w5) : Dfs lo sb w n d nb c g root (y :: sl) (y :: stk) sv' x (k + 1) w5 := by
  have hsz := h.kept.below.size
  have hst := h.stack.block (w' := wr.setCell ⟨sb, y, none⟩ (.bool true)) (fun b hb => blk_setCell_other _ _ _ _ (by have := (h.stack.lt b hb).1; show b ≠ sb; omega))
  obtain ⟨hI, _, _⟩ := hst.push (x := y) (by rw [nblk_setCell]; omega) (by rw [List.length_reverse]; exact ha)
  have hg : ((wr.setCell ⟨sb, y, none⟩ (.bool true)).alloc o).grownBy w5 sv.ownBlock := by
    obtain ⟨_, _, _, _, _, _, _, hg⟩ := ha
    exact hg
  refine ⟨((h.kept.set hlo y _).alloc (by omega) o).grown hg (by omega) (fun b hb => (h.stack.lt b hb).1), (((h.seen.set y _).alloc o).grown hg (fun e => by have := (h.stack.lt sb e.symm).1; omega)).congr (fun i _ => ?_), by rw [List.reverse_cons]; exact hI,
    List.nodup_cons.2 ⟨hys, h.nd⟩, fun v hv => ?_, List.mem_cons_of_mem _ h.rt, fun v hv => ?_, by have := h.len; simp only [List.length_cons]; omega, fun v hv => ?_⟩
  · unfold sn
    by_cases e : i = y
    · subst e; simp
    · simp [e]
  · rcases List.mem_cons.1 hv with e | hv'
    · rw [e]; exact ⟨hyn, hyc⟩
    · exact h.mem v hv'
  · rcases List.mem_cons.1 hv with e | hv'
    · rw [e]; exact List.mem_cons_self
    · exact List.mem_cons_of_mem _ (h.sub v hv')
  · rcases List.mem_cons.1 hv with e | hv'
    · exact Or.inl (by rw [e]; exact List.mem_cons_self)
    · rcases h.opn v hv' with h6 | h6 | ⟨e, h6⟩
      · exact Or.inl (List.mem_cons_of_mem _ h6)
      · exact Or.inr (Or.inl (fun j hj hc => List.mem_cons_of_mem _ (h6 j hj hc)))
      · refine Or.inr (Or.inr ⟨e, fun j hj hc => ?_⟩)
        by_cases ej : j = k
        · subst ej; rw [hy]; exact List.mem_cons_self
        · exact List.mem_cons_of_mem _ (h6 j (by omega) hc)
/-- Nothing is left on the stack. -/
theorem Dfs.done (h : Dfs lo sb w n d nb c g root sl [] sv n 0 wr) (hW : Whole n d nb c g root) {L : List Nat} (hL : L.Nodup) (hm : ∀ v, v ∈ L ↔ c v = g) :
    sl.length = L.length ∧ Kept lo sb w wr ∧ Arr wr sb 4 n n (fun i => .bool (decide (c i < g + 1))) := by
  have hall : ∀ v, v ∈ sl ↔ c v = g := fun v => by
    refine ⟨fun hv => (h.mem v hv).2, fun hv => hW sl h.rt h.mem (fun u hu j hj hc => ?_) v hv⟩
    rcases h.opn u hu with h6 | h6 | ⟨e, _⟩
    · simp at h6
    · exact h6 j hj hc
    · have := (h.mem u hu).1
      omega
  refine ⟨Nat.le_antisymm (nodup_sub sl L h.nd (fun v hv => (hm v).2 ((hall v).1 hv))) (nodup_sub L sl hL (fun v hv => (hall v).2 ((hm v).1 hv))), h.kept, h.seen.congr (fun i _ => ?_)⟩
  unfold sn
  congr 1
  rw [← Bool.decide_or]
  apply decide_eq_decide.2
  rw [hall i]
  omega
end
end Go.Proofs.Qxb6604011a.Scc
