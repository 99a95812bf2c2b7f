import Derived.Test.Qxb6604011aState
namespace Go.Proofs.Qxb6604011a.Scc
open Go.RowKit Go.Deep

/-- The state of stronglyConnected between two turns: what the algorithm knows, and how it lies in memory. 'vl': the nodes that have been met. -/
structure Now (w0 : World) (B n : Nat) (deg : Nat → Nat) (tg : Nat → Nat → Nat) (wr : World) (gv : Value) (ord low : Nat → Int) (on : Nat → Bool) (stk wn : List Nat) (sv : Value) (nxt : Nat) (c : Nat → Int) (grp : List (List Nat)) (pe : Nat → Nat) (vl : List Nat) : Prop where
  mem : Mem w0 B n wr ord low on stk sv nxt
  inv : Inv n deg tg ord low stk wn nxt c grp.length pe
  grps : Grps wr (B + 8) gv grp (fun k => sv.ownBlock = some k)
  on_iff : ∀ v, on v = true ↔ v ∈ stk
  vnd : vl.Nodup
  vin : ∀ v, v ∈ vl ↔ (v < n ∧ 0 ≤ ord v)
  vlen : vl.length = nxt
  gmem : ∀ j v, j < grp.length → (v ∈ grp.getD j [] ↔ c v = j)
  gnd : ∀ j, j < grp.length → (grp.getD j []).Nodup ∧ grp.getD j [] ≠ []

section
variable {w0 wr w' : World} {B n : Nat} {deg : Nat → Nat} {tg : Nat → Nat → Nat} {gv : Value} {ord low : Nat → Int} {on : Nat → Bool} {stk wn : List Nat} {sv : Value} {nxt : Nat} {c : Nat → Int} {grp : List (List Nat)} {pe : Nat → Nat} {vl : List Nat}

theorem Now.nxt_le (h : Now w0 B n deg tg wr gv ord low on stk wn sv nxt c grp pe vl) : nxt ≤ n := by
  rw [← h.vlen]; exact nodup_len n vl h.vnd (fun x hx => ((h.vin x).1 hx).1)
theorem Now.stk_le (h : Now w0 B n deg tg wr gv ord low on stk wn sv nxt c grp pe vl) : stk.length ≤ n :=
  nodup_len n stk (sorted_nodup h.inv.sorted) (fun x hx => (h.inv.stk_in x hx).1)
theorem Now.wn_le (h : Now w0 B n deg tg wr gv ord low on stk wn sv nxt c grp pe vl) : wn.length ≤ n :=
  nodup_len n wn (sorted_nodup h.inv.wsorted) (fun x hx => (h.inv.stk_in x (h.inv.wsub x hx).1).1)
theorem Now.grp_le (h : Now w0 B n deg tg wr gv ord low on stk wn sv nxt c grp pe vl) : grp.length ≤ n := by
  have key : ∀ j, j < grp.length → (grp.getD j []).headD 0 ∈ grp.getD j [] := fun j hj => by
    have := (h.gnd j hj).2
    match hx : grp.getD j [], this with
    | a :: l, _ => exact List.mem_cons_self
  have hc : ∀ j, j < grp.length → c ((grp.getD j []).headD 0) = j := fun j hj => (h.gmem j _ hj).1 (key j hj)
  have := nodup_len n ((List.range grp.length).map (fun j => (grp.getD j []).headD 0)) (by
    unfold List.Nodup
    rw [List.pairwise_map]
    refine List.Pairwise.imp_of_mem (fun {a b} ha hb hab e => ?_) (List.pairwise_lt_range (n := grp.length))
    have h1 := hc a (List.mem_range.1 ha)
    have h2 := hc b (List.mem_range.1 hb)
    rw [e, h2] at h1
    omega) (fun x hx => by
    obtain ⟨j, hj, rfl⟩ := List.mem_map.1 hx
    have hcj := hc j (List.mem_range.1 hj)
    exact (h.inv.plc _ (by omega)).1)
  simpa using this

theorem Mem.stack_type (h : Mem w0 B n wr ord low on stk sv nxt) : ∀ k cap m f, sv.ownBlock = some k → ¬ Arr wr k 24 cap m f := by
  intro k cap m f hk hA
  rcases h.stack with ⟨rfl, _⟩ | ⟨g, cp, rfl, _, _, hS⟩
  · simp [Value.ownBlock] at hk
  · simp [Value.ownBlock] at hk
    subst hk
    exact arr_ne hS hA (by decide) rfl
theorem Mem.stack_ne (h : Mem w0 B n wr ord low on stk sv nxt) {k t cap m : Nat} {f : Nat → Value} (ht : t ≠ 3) (hA : Arr wr k t cap m f) : some k ≠ sv.ownBlock := by
  intro hk
  rcases h.stack with ⟨rfl, _⟩ | ⟨g, cp, rfl, _, _, hS⟩
  · simp [Value.ownBlock] at hk
  · simp [Value.ownBlock] at hk
    subst hk
    exact arr_ne hS hA (fun e => ht e.symm) rfl

/-- The same state in another world: no row of the groups, and nothing of Mem, has turned. -/
theorem Now.world (h : Now w0 B n deg tg wr gv ord low on stk wn sv nxt c grp pe vl) (hM : Mem w0 B n w' ord low on stk sv nxt)
    (hb : ∀ k t cap m f, B + 8 ≤ k → k < wr.heap.size → sv.ownBlock ≠ some k → t = 3 ∨ t = 24 → Arr wr k t cap m f → w'.heap[k]? = wr.heap[k]?) :
    Now w0 B n deg tg w' gv ord low on stk wn sv nxt c grp pe vl :=
  ⟨hM, h.inv, h.grps.block hb h.mem.stack_type (fun _ hk => Or.inl hk), h.on_iff, h.vnd, h.vin, h.vlen, h.gmem, h.gnd⟩

/-- A node is met. -/
theorem Now.visit (h : Now w0 B n deg tg wr gv ord low on stk wn sv nxt c grp pe vl) {w : Nat} (hw : w < n) (hu : ord w < 0) (hr : ∀ p, p ∈ wn → Reach deg tg p w) {sv' : Value}
    (hM : Mem w0 B n w' (upd ord w nxt) (upd low w nxt) (upd on w true) (w :: stk) sv' (nxt + 1)) (ho : sv'.ownBlock = sv.ownBlock ∨ ∃ k, sv'.ownBlock = some k ∧ wr.heap.size < k) (hs : Side B sv wr w') :
    Now w0 B n deg tg w' gv (upd ord w nxt) (upd low w nxt) (upd on w true) (w :: stk) (w :: wn) sv' (nxt + 1) c grp pe (w :: vl) := by
  refine ⟨hM, h.inv.visit w hw hu hr, ?_, ?_, ?_, ?_, by rw [List.length_cons, h.vlen], h.gmem, h.gnd⟩
  · refine h.grps.block (fun k t cap m f h1 h2 h3 _ _ => hs.2 k h1 h2 (fun e => h3 e.symm)) h.mem.stack_type (fun k hk => ?_)
    rcases ho with e | ⟨k', e, hk'⟩
    · left; rw [← e]; exact hk
    · right; rw [e] at hk; simp only [Option.some.injEq] at hk; omega
  · intro x
    by_cases e : x = w
    · rw [e, upd_same]; simp
    · rw [upd_other _ _ e, h.on_iff x]
      constructor
      · exact fun hm => List.mem_cons_of_mem _ hm
      · intro hm
        rcases List.mem_cons.1 hm with e' | hm
        · exact absurd e' e
        · exact hm
  · rw [List.nodup_cons]
    exact ⟨fun hm => by have := ((h.vin w).1 hm).2; omega, h.vnd⟩
  · intro x
    by_cases e : x = w
    · rw [e, upd_same]
      exact ⟨fun _ => ⟨hw, by omega⟩, fun _ => List.mem_cons_self⟩
    · rw [upd_other _ _ e, ← h.vin x]
      constructor
      · intro hm
        rcases List.mem_cons.1 hm with e' | hm
        · exact absurd e' e
        · exact hm
      · exact fun hm => List.mem_cons_of_mem _ hm

/-- One more edge followed. -/
theorem Now.advance (h : Now w0 B n deg tg wr gv ord low on stk wn sv nxt c grp pe vl) (v : Nat) (hv : v ∈ wn) (hlt : pe v < deg v) (ht : 0 ≤ ord (tg v (pe v))) (hlow : tg v (pe v) ∈ stk → low v ≤ ord (tg v (pe v))) :
    Now w0 B n deg tg wr gv ord low on stk wn sv nxt c grp (upd pe v (pe v + 1)) vl :=
  ⟨h.mem, h.inv.advance v hv hlt ht hlow, h.grps, h.on_iff, h.vnd, h.vin, h.vlen, h.gmem, h.gnd⟩

/-- low v is lowered to the order of y, which v reaches. -/
theorem Now.lower (h : Now w0 B n deg tg wr gv ord low on stk wn sv nxt c grp pe vl) (v y : Nat) (hv : v ∈ wn) (hy : y ∈ stk) (hr : Reach deg tg v y) (x : Int) (hx : x = ord y) :
    Now w0 B n deg tg ((wr.setCell ⟨B + 2, v, none⟩ (.int .i64 (min (low v) x))).drew) gv ord (upd low v (min (low v) x)) on stk wn sv nxt c grp pe vl := by
  subst hx
  refine ⟨(h.mem.setLow v _).drew, h.inv.lower v y hv hy hr, h.grps.block (fun k t cap m f h1 h2 h3 _ _ => ?_) h.mem.stack_type (fun _ hk => Or.inl hk), h.on_iff, h.vnd, h.vin, h.vlen, h.gmem, h.gnd⟩
  show (wr.setCell _ _).heap[k]? = _
  exact blk_setCell_other _ _ _ _ (by show k ≠ B + 2; omega)

theorem Now.back {v u : Nat} {rest : List Nat} (h : Now w0 B n deg tg wr gv ord low on stk (v :: u :: rest) sv nxt c grp pe vl) (hpe : pe v = deg v) (hlt : low v < ord v) (hu : low u ≤ low v) :
    Now w0 B n deg tg wr gv ord low on stk (u :: rest) sv nxt c grp pe vl :=
  ⟨h.mem, h.inv.back hpe hlt hu, h.grps, h.on_iff, h.vnd, h.vin, h.vlen, h.gmem, h.gnd⟩

/-- The group of v is closed: the world behind it holds the popped stack and one group more. -/
theorem Now.close {v : Nat} {rest seg bot : List Nat} (h : Now w0 B n deg tg wr gv ord low on (seg ++ v :: bot) (v :: rest) sv nxt c grp pe vl) (hpe : pe v = deg v) (hlow : low v = ord v)
    {on' : Nat → Bool} {sv' gv' : Value} (hM : Mem w0 B n w' ord low on' bot sv' nxt) (hon : ∀ x, on' x = true ↔ x ∈ bot) (hG : Grps w' (B + 8) gv' (grp ++ [seg ++ [v]]) (fun k => sv'.ownBlock = some k)) :
    ∃ c', Now w0 B n deg tg w' gv' ord low on' bot rest sv' nxt c' (grp ++ [seg ++ [v]]) pe vl := by
  have hnd := sorted_nodup h.inv.sorted
  rw [List.nodup_append] at hnd
  obtain ⟨hn1, hn2, hn3⟩ := hnd
  rw [List.nodup_cons] at hn2
  have hg : (seg ++ [v]).Nodup := by
    rw [List.nodup_append]
    exact ⟨hn1, by simp, fun a ha b hb => by
      have : b = v := by simpa using hb
      rw [this]; exact hn3 a ha v List.mem_cons_self⟩
  refine ⟨fun x => if x ∈ seg ++ [v] then (grp.length : Int) else c x, hM, ?_, hG, hon, h.vnd, h.vin, h.vlen, ?_, ?_⟩
  · rw [List.length_append]
    refine h.inv.close hpe hlow _ (fun x hx => ?_) (fun x hx => ?_)
    · rw [if_pos (by rcases hx with hx | hx; exact List.mem_append_left _ hx; rw [hx]; exact List.mem_append_right _ List.mem_cons_self)]
    · rw [if_neg (fun hm => hx (by
        rcases List.mem_append.1 hm with hm | hm
        · exact Or.inl hm
        · exact Or.inr (by simpa using hm)))]
  · intro j x hj
    rw [List.length_append] at hj
    have hj' : j < grp.length + 1 := hj
    by_cases e : j < grp.length
    · rw [show (grp ++ [seg ++ [v]]).getD j [] = grp.getD j [] by simp [List.getElem?_append_left e], h.gmem j x e]
      by_cases e2 : x ∈ seg ++ [v]
      · rw [if_pos e2]
        have hxs : x ∈ seg ++ v :: bot := by
          rcases List.mem_append.1 e2 with hm | hm
          · exact List.mem_append_left _ hm
          · have : x = v := by simpa using hm
            rw [this]; exact List.mem_append_right _ List.mem_cons_self
        have := (h.inv.stk_in x hxs).2.2.2
        constructor
        · intro h1; omega
        · intro h1; omega
      · rw [if_neg e2]
    · have e2 : j = grp.length := by omega
      rw [e2, show (grp ++ [seg ++ [v]]).getD grp.length [] = seg ++ [v] by simp]
      by_cases e3 : x ∈ seg ++ [v]
      · rw [if_pos e3]; exact ⟨fun _ => rfl, fun _ => e3⟩
      · rw [if_neg e3]
        refine ⟨fun hm => absurd hm e3, fun hcx => ?_⟩
        have := (h.inv.plc x (by omega)).2.2.1
        omega
  · intro j hj
    rw [List.length_append] at hj
    have hj' : j < grp.length + 1 := hj
    by_cases e : j < grp.length
    · rw [show (grp ++ [seg ++ [v]]).getD j [] = grp.getD j [] by simp [List.getElem?_append_left e]]
      exact h.gnd j e
    · have e2 : j = grp.length := by omega
      rw [e2, show (grp ++ [seg ++ [v]]).getD grp.length [] = seg ++ [v] by simp]
      exact ⟨hg, by simp⟩
end

/-! The walk in memory. -/
section
variable {wr w' : World} {lo : Nat} {wn : List Nat} {pe : Nat → Nat}
/-- The edge count of the walk's last node is turned. -/
theorem WalkIs.edge {g cap v : Nat} {rest : List Nat} (h : WalkIs wr lo (.slice (some ⟨g, 0, none⟩) (rest.length + 1) cap) (v :: rest) pe) (hv : v ∉ rest) (x : Nat) :
    WalkIs (wr.setCell ⟨g, rest.length * 2 + 1, none⟩ (.int .i64 x)) lo (.slice (some ⟨g, 0, none⟩) (rest.length + 1) cap) (v :: rest) (upd pe v x) := by
  obtain ⟨g', cap', e, hl, hc, hA⟩ := h
  simp only [List.length_cons, Value.slice.injEq, Option.some.injEq, Addr.mk.injEq, and_true, true_and] at e
  obtain ⟨rfl, rfl⟩ := e
  refine ⟨g, cap, rfl, hl, hc, (hA.set (rest.length * 2 + 1) _).congr (fun i hi => ?_)⟩
  have hlen : (v :: rest).length = rest.length + 1 := rfl
  rw [hlen] at hi
  by_cases e : i = rest.length * 2 + 1
  · subst e
    have h1 : (rest.length * 2 + 1) % 2 = 1 := by omega
    have h2 : (rest.length * 2 + 1) / 2 = rest.length := by omega
    have h3 : (v :: rest).reverse.getD rest.length 0 = v := by simp
    simp only [if_true, h1, h2, h3, upd_same]
    rfl
  · rw [if_neg e]
    by_cases e2 : i % 2 = 0
    · simp only [if_pos e2]
    · simp only [if_neg e2]
      have h3 : i / 2 < rest.length := by omega
      have h4 : (v :: rest).reverse.getD (i / 2) 0 = rest.reverse.getD (i / 2) 0 := by simp [List.getElem?_append_left, h3]
      have h5 : rest.reverse.getD (i / 2) 0 ∈ rest := by
        have : i / 2 < rest.reverse.length := by simpa using h3
        rw [List.getD_eq_getElem?_getD, List.getElem?_eq_getElem this, Option.getD_some]
        exact List.mem_reverse.1 (List.getElem_mem this)
      rw [h4, upd_other pe x (show rest.reverse.getD (i / 2) 0 ≠ v from fun e => hv (e ▸ h5))]
theorem WalkIs.top {g cap v : Nat} {rest : List Nat} (h : WalkIs wr lo (.slice (some ⟨g, 0, none⟩) (rest.length + 1) cap) (v :: rest) pe) :
    wr.cell? ⟨g, rest.length * 2, none⟩ = some (.int .i64 (v : Nat)) ∧ wr.cell? ⟨g, rest.length * 2 + 1, none⟩ = some (.int .i64 (pe v : Nat)) ∧ (∀ i, wr.frozen? ⟨g, i, none⟩ = false) ∧ lo ≤ g ∧ cap ≤ maxLen ∧ rest.length + 1 ≤ cap := by
  obtain ⟨g', cap', e, hl, hc, hA⟩ := h
  simp only [List.length_cons, Value.slice.injEq, Option.some.injEq, Addr.mk.injEq, and_true, true_and] at e
  obtain ⟨rfl, rfl⟩ := e
  have hle := hA.le
  have hlen : (v :: rest).length = rest.length + 1 := rfl
  rw [hlen] at hA hle
  have h3 : (v :: rest).reverse.getD rest.length 0 = v := by simp
  have c1 := hA.cell (show rest.length * 2 < (rest.length + 1) * 2 by omega)
  have c2 := hA.cell (show rest.length * 2 + 1 < (rest.length + 1) * 2 by omega)
  have h1 : (rest.length * 2 + 1) % 2 = 1 := by omega
  have h2 : (rest.length * 2 + 1) / 2 = rest.length := by omega
  have h4 : (rest.length * 2) % 2 = 0 := by omega
  have h5 : (rest.length * 2) / 2 = rest.length := by omega
  simp only [h1, h2, h3] at c2
  simp only [h4, h5, h3, if_true] at c1
  exact ⟨c1, c2, fun i => hA.frozen i, hl, hc, by omega⟩
/-- The walk's last node is dropped. -/
theorem WalkIs.pop {g cap v : Nat} {rest : List Nat} (h : WalkIs wr lo (.slice (some ⟨g, 0, none⟩) (rest.length + 1) cap) (v :: rest) pe) : WalkIs wr lo (.slice (some ⟨g, 0, none⟩) rest.length cap) rest pe := by
  obtain ⟨g', cap', e, hl, hc, hA⟩ := h
  simp only [List.length_cons, Value.slice.injEq, Option.some.injEq, Addr.mk.injEq, and_true, true_and] at e
  obtain ⟨rfl, rfl⟩ := e
  have hlen : (v :: rest).length = rest.length + 1 := rfl
  rw [hlen] at hA
  refine ⟨g, cap, rfl, hl, hc, (hA.less (show rest.length * 2 ≤ (rest.length + 1) * 2 by omega)).congr (fun i hi => ?_)⟩
  have h3 : i / 2 < rest.length := by omega
  have h4 : (v :: rest).reverse.getD (i / 2) 0 = rest.reverse.getD (i / 2) 0 := by simp [List.getElem?_append_left, h3]
  rw [h4]
/-- A node is laid upon the walk. -/
theorem WalkIs.push {v : Value} (h : WalkIs wr lo v wn pe) {o : Obj} {x : Nat} (hx : pe x = 0) {v' : Value} {w1 : World} (hlo : lo ≤ wr.heap.size)
    (ha : Appended (wr.alloc o) v.ownBlock 35 2 wn.length 1 (fun i => if i % 2 = 0 then .int .i64 (wn.reverse.getD (i / 2) 0 : Nat) else .int .i64 (pe (wn.reverse.getD (i / 2) 0) : Nat)) [.int .i64 (x : Nat), .int .i64 0] v' w1) :
    WalkIs w1 lo v' (x :: wn) pe := by
  obtain ⟨g', cap', rfl, hA, hc, hm, hr, hg⟩ := ha
  refine ⟨g', cap', rfl, ?_, hm, hA.congr (fun i hi => ?_)⟩
  · rcases hr with e | e
    · obtain ⟨g, hg1, hg2, _⟩ := h.own
      rw [hg1] at e
      simp only [Option.some.injEq] at e
      omega
    · rw [nblk_alloc] at e; omega
  · rw [List.reverse_cons]
    by_cases e : i < wn.length * 2
    · have h3 : i / 2 < wn.length := by omega
      have h4 : (wn.reverse ++ [x]).getD (i / 2) 0 = wn.reverse.getD (i / 2) 0 := by simp [List.getElem?_append_left, h3]
      rw [if_pos e, h4]
    · rw [if_neg e]
      have hi' : i < (wn.length + 1) * 2 := hi
      have h3 : i / 2 = wn.length := by omega
      have h4 : (wn.reverse ++ [x]).getD wn.length 0 = x := by simp
      rw [h3, h4, hx]
      have h5 : i = wn.length * 2 ∨ i = wn.length * 2 + 1 := by omega
      rcases h5 with rfl | rfl
      · have : wn.length * 2 % 2 = 0 := by omega
        simp [this]
      · have : (wn.length * 2 + 1) % 2 = 1 := by omega
        have h6 : wn.length * 2 + 1 - wn.length * 2 = 1 := by omega
        simp [this, h6]
end
end Go.Proofs.Qxb6604011a.Scc
