import Derived.Test.Qxb6604011aPop
import Derived.Test.Qxb6604011aGroup
namespace Go.Proofs.Qxb6604011a.Scc
open Go.RowKit Go.Deep

/-! The plain law: groups are the classes of 'reach each other', and reversing keeps them. -/
/-- What SccOut says of c. -/
structure Groups (n : Nat) (deg : Nat → Nat) (tg : Nat → Nat → Nat) (c : Nat → Int) (grp : List (List Nat)) : Prop where
  part : Part n c grp
  cls : ∀ v, 0 ≤ c v → ∀ k, k < deg v → 0 ≤ c (tg v k) ∧ c (tg v k) ≤ c v
  scc : ∀ u v, 0 ≤ c u → c u = c v → Reach deg tg u v

section
variable {n : Nat} {deg deg' : Nat → Nat} {tg tg' : Nat → Nat → Nat} {c c' : Nat → Int} {grp grp' : List (List Nat)}
theorem Groups.down (h : Groups n deg tg c grp) : ∀ (k u v : Nat), Steps deg tg k u v → 0 ≤ c u → 0 ≤ c v ∧ c v ≤ c u
  | 0, u, v, hs, hu => by
    have e : u = v := hs
    subst e
    exact ⟨hu, Int.le_refl _⟩
  | k + 1, u, v, ⟨x, ⟨j, hj, hx⟩, hs⟩, hu => by
    have h1 := h.cls u hu j hj
    rw [hx] at h1
    have h2 := h.down k x v hs h1.1
    exact ⟨h2.1, by omega⟩
theorem Groups.eq_iff (h : Groups n deg tg c grp) {u v : Nat} (hu : u < n) (hv : v < n) : c u = c v ↔ (Reach deg tg u v ∧ Reach deg tg v u) := by
  have h1 := h.part.all u hu
  have h2 := h.part.all v hv
  constructor
  · intro e
    exact ⟨h.scc u v h1 e, h.scc v u h2 e.symm⟩
  · rintro ⟨⟨k, hk⟩, ⟨l, hl⟩⟩
    have a := (h.down k u v hk h1).2
    have b := (h.down l v u hl h2).2
    omega
theorem rev_steps (ht : ∀ i k, i < n → k < deg i → tg i k < n) (hr : ∀ i x, i < n → Edge deg tg i x → Edge deg' tg' x i) : ∀ (k u v : Nat), u < n → Steps deg tg k u v → Reach deg' tg' v u
  | 0, u, v, _, hs => by
    have e : u = v := hs
    subst e
    exact Reach.refl _
  | k + 1, u, v, hu, ⟨x, he, hs⟩ => by
    obtain ⟨j, hj, hx⟩ := id he
    have hxn : x < n := hx ▸ ht u j hu hj
    exact (rev_steps ht hr k x v hxn hs).trans (Reach.head (hr u x hu he) (Reach.refl _))

/-- Both graphs: the same classes. -/
theorem same_class (h : Groups n deg tg c grp) (h' : Groups n deg' tg' c' grp') (ht : ∀ i k, i < n → k < deg i → tg i k < n) (ht' : ∀ i k, i < n → k < deg' i → tg' i k < n)
    (hr : ∀ i x, i < n → Edge deg tg i x → Edge deg' tg' x i) (hr' : ∀ i x, i < n → Edge deg' tg' i x → Edge deg tg x i) {u v : Nat} (hu : u < n) (hv : v < n) : c u = c v ↔ c' u = c' v := by
  rw [h.eq_iff hu hv, h'.eq_iff hu hv]
  constructor
  · rintro ⟨⟨k, hk⟩, ⟨l, hl⟩⟩
    exact ⟨rev_steps ht hr l v u hv hl, rev_steps ht hr k u v hu hk⟩
  · rintro ⟨⟨k, hk⟩, ⟨l, hl⟩⟩
    exact ⟨rev_steps ht' hr' l v u hv hl, rev_steps ht' hr' k u v hu hk⟩

theorem head_mem {L : List Nat} (h : L ≠ []) : L.getD 0 0 ∈ L := by
  match L, h with
  | a :: l, _ => exact List.mem_cons_self
theorem Part.head (h : Part n c grp) {j : Nat} (hj : j < grp.length) : c ((grp.getD j []).getD 0 0) = j ∧ (grp.getD j []).getD 0 0 < n := by
  have h1 := (h.mem j _ hj).1 (head_mem (h.nd j hj).2)
  exact ⟨h1, (h.lt _ (by omega)).1⟩
theorem count_le (h : Part n c grp) (h' : Part n c' grp') (hs : ∀ u v, u < n → v < n → c' u = c' v → c u = c v) : grp.length ≤ grp'.length := by
  have := nodup_len grp'.length ((List.range grp.length).map (fun j => (c' ((grp.getD j []).getD 0 0)).toNat)) (by
    unfold List.Nodup
    rw [List.pairwise_map]
    refine List.Pairwise.imp_of_mem (fun {a b} ha hb hab e => ?_) (List.pairwise_lt_range (n := grp.length))
    obtain ⟨a1, a2⟩ := h.head (List.mem_range.1 ha)
    obtain ⟨b1, b2⟩ := h.head (List.mem_range.1 hb)
    have p1 := h'.all _ a2
    have p2 := h'.all _ b2
    have := hs _ _ a2 b2 (by omega)
    omega) (fun x hx => by
    obtain ⟨j, hj, rfl⟩ := List.mem_map.1 hx
    obtain ⟨a1, a2⟩ := h.head (List.mem_range.1 hj)
    have p1 := h'.all _ a2
    have p2 := (h'.lt _ p1).2
    omega)
  simpa using this
end

/-! The reversed edges in memory. -/
def sm (deg : Nat → Nat) : Nat → Nat
  | 0 => 0
  | k + 1 => sm deg k + deg k

def RevAt (w : World) (B n : Nat) (deg : Nat → Nat) (tg : Nat → Nat → Nat) (v k : Nat) (wr : World) : Prop :=
  Below B w wr ∧ B < wr.heap.size ∧ ∃ (rv : Nat → Value) (xs : Nat → List Nat), Arr wr B 24 n n rv ∧ (∀ i, i < n → Ints wr (B + 1) (rv i) (xs i)) ∧ (∀ i j b, i < n → j < n → (rv i).ownBlock = some b → (rv j).ownBlock = some b → i = j) ∧
    (∀ i x, i < n → (x ∈ xs i ↔ ∃ k', k' < deg x ∧ tg x k' = i ∧ (x < v ∨ (x = v ∧ k' < k)))) ∧ ∀ i, i < n → (xs i).length ≤ sm deg v + k

section
variable {w wr w1 : World} {B n v k : Nat} {deg : Nat → Nat} {tg : Nat → Nat → Nat}
theorem rev_start (w : World) (n : Nat) (deg : Nat → Nat) (tg : Nat → Nat → Nat) : RevAt w w.heap.size n deg tg 0 0 (w.alloc (.cells (madeCells #[.slice none 0 0] n) 24)) :=
  ⟨(Below.refl _ _).alloc (Nat.le_refl _) _, by rw [nblk_alloc]; omega, fun _ => .slice none 0 0, fun _ => [], Arr_made w (.slice none 0 0) n 24, fun i _ => Or.inl ⟨rfl, rfl⟩, fun i j b _ _ h => by simp [Value.ownBlock] at h, fun i x _ => by simp, fun i _ => by simp⟩
theorem RevAt.next (h : RevAt w B n deg tg v (deg v) wr) : RevAt w B n deg tg (v + 1) 0 wr := by
  obtain ⟨h1, h2, rv, xs, h3, h4, h5, h6, h7⟩ := h
  refine ⟨h1, h2, rv, xs, h3, h4, h5, fun i x hi => ?_, fun i hi => by have := h7 i hi; simp only [sm]; omega⟩
  rw [h6 i x hi]
  constructor
  · rintro ⟨k', a, b, c⟩
    exact ⟨k', a, b, Or.inl (by omega)⟩
  · rintro ⟨k', a, b, c⟩
    refine ⟨k', a, b, ?_⟩
    rcases c with c | c
    · by_cases e : x = v
      · subst e; exact Or.inr ⟨rfl, a⟩
      · exact Or.inl (by omega)
    · omega
/-- What the turn reads: the row of the edge's target. -/
theorem RevAt.row (h : RevAt w B n deg tg v k wr) {i : Nat} (hi : i < n) (hlt : k < deg v) (htg : tg v k = i) :
    ∃ (val : Value) (ys : List Nat), wr.cell? ⟨B, i, none⟩ = some val ∧ wr.frozen? ⟨B, i, none⟩ = false ∧ Ints wr (B + 1) val ys ∧ ys.length ≤ sm deg v + k ∧ (∃ ao cap, val = .slice ao ys.length cap) ∧
      ∀ o val' w1, Appended (wr.alloc o) val.ownBlock 3 1 ys.length 1 (intf ys) [.int .i64 (v : Nat)] val' w1 →
        RevAt w B n deg tg v (k + 1) (w1.setCell ⟨B, i, none⟩ val') ∧ w1.cell? ⟨B, i, none⟩ = some val ∧ w1.frozen? ⟨B, i, none⟩ = false ∧ ∃ xr xc, val' = .slice (some ⟨xr, 0, none⟩) (ys.length + 1) xc := by
  obtain ⟨h1, h2, rv, xs, h3, h4, h5, h6, h7⟩ := h
  refine ⟨rv i, xs i, h3.cell hi, h3.frozen i, h4 i hi, h7 i hi, ?_, fun o val' w1 ha => ?_⟩
  · rcases h4 i hi with ⟨e1, e2⟩ | ⟨g, cap, e1, _⟩
    · exact ⟨none, 0, by rw [e1, e2]; rfl⟩
    · exact ⟨_, cap, e1⟩
  obtain ⟨hI, hown, xr, xc, hv'⟩ := (h4 i hi).push (by omega) ha
  have hg : (wr.alloc o).grownBy w1 (rv i).ownBlock := by
    obtain ⟨_, _, _, _, _, _, _, hg⟩ := ha
    exact hg
  have hrow : ∀ b, (rv i).ownBlock = some b → B + 1 ≤ b ∧ b < wr.heap.size := (h4 i hi).lt
  have keep : ∀ b, b < wr.heap.size → (rv i).ownBlock ≠ some b → w1.heap[b]? = wr.heap[b]? := fun b hb hne => by
    rw [hg.block b (by rw [nblk_alloc]; omega) (fun e => hne e.symm), blk_alloc_lt _ _ _ hb]
  have hBk : w1.heap[B]? = wr.heap[B]? := keep B h2 (fun e => by have := (hrow B e).1; omega)
  have hsz : wr.heap.size ≤ w1.heap.size := by have := hg.size; rw [nblk_alloc] at this; omega
  have hset : ∀ b, b ≠ B → (w1.setCell ⟨B, i, none⟩ val').heap[b]? = w1.heap[b]? := fun b hb => blk_setCell_other _ _ _ _ hb
  refine ⟨⟨?_, by rw [nblk_setCell]; omega, upd rv i val', upd xs i (xs i ++ [v]), ((h3.of_block hBk).set i _).congr (fun j _ => by unfold upd; split <;> rfl), fun j hj => ?_, fun a b q ha hb hqa hqb => ?_, fun j x hj => ?_, fun j hj => ?_⟩,
    (h3.of_block hBk).cell hi, (h3.of_block hBk).frozen i, xr, xc, hv'⟩
  · exact (((h1.alloc (by omega) o).grown hg (by rw [nblk_alloc]; omega) (fun b hb => by have := (hrow b hb).1; omega))).setCell (Nat.le_refl _) _
  · by_cases e : j = i
    · subst e
      rw [upd_same, upd_same]
      exact hI.block (fun b hb => hset b (by have := (hI.lt b hb).1; omega))
    · rw [upd_other _ _ e, upd_other _ _ e]
      refine (h4 j hj).block (fun b hb => ?_)
      have hl := (h4 j hj).lt b hb
      rw [hset b (by omega), keep b hl.2 (fun e2 => e (h5 j i b hj hi hb e2))]
  · have new : ∀ j, j < n → j ≠ i → ∀ q, val'.ownBlock = some q → (rv j).ownBlock = some q → False := fun j hj hne q h1 h2 => by
      rcases hown with e | ⟨k', e, hk'⟩
      · exact hne (h5 j i q hj hi h2 (by rw [← e]; exact h1))
      · have := ((h4 j hj).lt q h2).2
        rw [e] at h1
        simp only [Option.some.injEq] at h1
        omega
    by_cases ea : a = i
    · by_cases eb : b = i
      · rw [ea, eb]
      · rw [ea, upd_same] at hqa
        rw [upd_other _ _ eb] at hqb
        exact (new b hb eb q hqa hqb).elim
    · rw [upd_other _ _ ea] at hqa
      by_cases eb : b = i
      · rw [eb, upd_same] at hqb
        exact (new a ha ea q hqb hqa).elim
      · rw [upd_other _ _ eb] at hqb
        exact h5 a b q ha hb hqa hqb
  · by_cases e : j = i
    · subst e
      rw [upd_same, List.mem_append, h6 j x hj]
      constructor
      · rintro (⟨k', a, b, c⟩ | hm)
        · exact ⟨k', a, b, by omega⟩
        · have e : x = v := by simpa using hm
          subst e
          exact ⟨k, hlt, htg, Or.inr ⟨rfl, by omega⟩⟩
      · rintro ⟨k', a, b, c⟩
        rcases c with c | ⟨c1, c2⟩
        · exact Or.inl ⟨k', a, b, Or.inl c⟩
        · by_cases e2 : k' < k
          · exact Or.inl ⟨k', a, b, Or.inr ⟨c1, e2⟩⟩
          · right; rw [c1]; exact List.mem_cons_self
    · rw [upd_other _ _ e, h6 j x hj]
      constructor
      · rintro ⟨k', a, b, c⟩
        exact ⟨k', a, b, by omega⟩
      · rintro ⟨k', a, b, c⟩
        refine ⟨k', a, b, ?_⟩
        rcases c with c | ⟨c1, c2⟩
        · exact Or.inl c
        · refine Or.inr ⟨c1, ?_⟩
          have : k' ≠ k := fun e2 => by
            subst c1 e2
            exact e (b.symm.trans htg)
          omega
  · by_cases e : j = i
    · subst e
      rw [upd_same, List.length_append]
      have := h7 j hj
      simp only [List.length_cons, List.length_nil]
      omega
    · rw [upd_other _ _ e]
      have := h7 j hj
      omega
/-- The reversed graph, whole. -/
theorem RevAt.graph (h : RevAt w B n deg tg n 0 wr) : ∃ (deg' : Nat → Nat) (tg' : Nat → Nat → Nat), GraphAt wr (.slice (some ⟨B, 0, none⟩) n n) n deg' tg' ∧ Below B w wr ∧ (∀ i, i < n → deg' i ≤ sm deg n) ∧
    (∀ i k, i < n → k < deg' i → tg' i k < n) ∧ (∀ i x, i < n → (Edge deg' tg' i x ↔ (x < n ∧ Edge deg tg x i))) := by
  obtain ⟨h1, h2, rv, xs, h3, h4, h5, h6, h7⟩ := h
  have hmem : ∀ i x, i < n → (x ∈ xs i ↔ (x < n ∧ Edge deg tg x i)) := fun i x hi => by
    rw [h6 i x hi]
    constructor
    · rintro ⟨k', a, b, c⟩
      exact ⟨by omega, k', a, b⟩
    · rintro ⟨a, k', b, c⟩
      exact ⟨k', b, c, Or.inl a⟩
  have hed : ∀ i x, Edge (fun i => (xs i).length) (fun i k => (xs i).getD k 0) i x ↔ x ∈ xs i := fun i x => by
    constructor
    · rintro ⟨k, hk, e⟩
      have hk' : k < (xs i).length := hk
      have := get_getD (xs i) k hk'
      exact List.mem_of_getElem? (this.trans (by rw [← e]))
    · intro hm
      obtain ⟨k, hk, e⟩ := List.getElem_of_mem hm
      exact ⟨k, hk, by show (xs i).getD k 0 = x; rw [List.getD_eq_getElem?_getD, List.getElem?_eq_getElem hk, Option.getD_some, e]⟩
  refine ⟨fun i => (xs i).length, fun i k => (xs i).getD k 0, ⟨some ⟨B, 0, none⟩, n, rfl, fun h => by simp at h, fun _ => ⟨B, 0, rfl, fun i hi => ?_⟩⟩, h1, fun i hi => by have := h7 i hi; simpa using this, fun i k hi hk => ((hmem i _ hi).1 ((hed i _).1 ⟨k, hk, rfl⟩)).1, fun i x hi => (hed i x).trans (hmem i x hi)⟩
  rw [Nat.zero_add]
  have hc := h3.cell hi
  rcases h4 i hi with ⟨e1, e2⟩ | ⟨g, cap, e1, _, _, hA⟩
  · have e3 : (xs i).length = 0 := by rw [e2]; rfl
    refine ⟨none, 0, by dsimp only; rw [hc, e1, e3], fun _ => ⟨rfl, e3⟩, fun h => ?_⟩
    have h' : 0 < (xs i).length := h
    omega
  · refine ⟨some ⟨g, 0, none⟩, cap, by rw [hc, e1], fun h => by simp at h, fun _ => ⟨g, 0, rfl, fun k hk => ?_⟩⟩
    rw [Nat.zero_add]
    exact hA.cell hk
end
end Go.Proofs.Qxb6604011a.Scc
