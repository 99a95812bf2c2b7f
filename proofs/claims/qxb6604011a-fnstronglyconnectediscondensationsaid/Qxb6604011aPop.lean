import Derived.Test.Qxb6604011aTurn
namespace Go.Proofs.Qxb6604011a.Scc
open Go.RowKit Go.Deep

/-! Append to a slice that may still be nil. -/
section
variable {P : Program} (w : World)
theorem wpList_append_any {ops : Array Oper} {rest : List Oper} {o : Oper} {a : Act} {Q : Exit → Act → World → Prop} (hgd : o.guard = none) (s x : Operand) (t : TypeId)
    (ho : o.op = .call { callee := .builtin .append, args := #[s, x], argTypes := #[t, t] })
    (e : TypeId) (i : TypeInfo) (z : Value) (sz bytes : Nat) (ht : P.underlying t = some (.slice e)) (hi : P.info? e = some i) (hz : i.zero = some z)
    (hsize : i.size = sz) (hby : i.bytes = bytes) (hzs : z.cells.size = sz) (v : Value) (n : Nat) (f : Nat → Value) (hs : a.eval s = v)
    (hv : (v = .slice none 0 0 ∧ n = 0) ∨ ∃ g cap, v = .slice (some ⟨g, 0, none⟩) n cap ∧ Arr w g e (cap * sz) (n * sz) f ∧ cap ≤ maxLen)
    (ad : Addr) (m c : Nat) (news : List Value) (hx : a.eval x = .slice (some ad) m c) (hl : news.length = m * sz) (hnews : ∀ j u, news[j]? = some u → w.cell? (ad.add j) = some u) (h1 : ∀ u ∈ news, u.oneCell' = true)
    (hm : 0 < m) (h63 : n + m ≤ maxLen) (hbytes : (n + m) * bytes ≤ 140737488355328)
    (h : ∀ v' w', Appended w v.ownBlock e sz n m f news v' w' → wpList P ops Q rest (a.put o.dst v') w') : wpList P ops Q (o :: rest) a w := by
  rcases hv with ⟨rfl, rfl⟩ | ⟨g, cap, rfl, hA, hc⟩
  · exact wpList_append_first w hgd s x t ho e i z sz bytes ht hi hz hsize hby hzs f hs ad m c news hx hl hnews hm (by omega) (by simpa using hbytes) h
  · exact wpList_append_arr w hgd s x t ho e i z sz bytes ht hi hz hsize hby hzs g n cap f hs hA hc ad m c news hx hl hnews h1 h63 hbytes h
end

/-! The group of a root is taken from the stack. -/
/-- 'done' has been taken, 'todo' is still to come. -/
structure PopS (w0 : World) (B n : Nat) (ord low : Nat → Int) (bot : List Nat) (nxt : Nat) (grp : List (List Nat)) (gv wv : Value) (rest : List Nat) (pe : Nat → Nat) (on : Nat → Bool) (sv : Value) (done todo : List Nat) (g1 : Value) (wr : World) : Prop where
  mem : Mem w0 B n wr ord low on (todo ++ bot) sv nxt
  on_iff : ∀ x, on x = true ↔ x ∈ todo ++ bot
  nd : (todo ++ bot).Nodup
  ints : Ints wr (B + 8) g1 done
  grps : Grps wr (B + 8) gv grp (fun k => sv.ownBlock = some k ∨ g1.ownBlock = some k)
  sep : ∀ k, g1.ownBlock = some k → sv.ownBlock ≠ some k
  walk : WalkIs wr (B + 8) wv rest pe

theorem split_last {seg done todo : List Nat} {v x : Nat} (h : seg ++ [v] = done ++ x :: todo) : (todo = [] ∧ x = v ∧ seg = done) ∨ (todo ≠ [] ∧ v ∈ todo) := by
  rcases List.eq_nil_or_concat todo with rfl | ⟨L, b, rfl⟩
  · have := List.append_inj' h rfl
    simp at this
    exact Or.inl ⟨rfl, this.2.symm, this.1⟩
  · have h' : seg ++ [v] = (done ++ x :: L) ++ [b] := by simpa using h
    have := List.append_inj' h' rfl
    simp at this
    exact Or.inr ⟨by simp, by simp [this.2]⟩

def intf (xs : List Nat) (i : Nat) : Value := .int .i64 (xs.getD i 0 : Nat)

section
variable {w0 wr w5 w6 : World} {B n root : Nat} {deg : Nat → Nat} {tg : Nat → Nat → Nat} {ord low : Nat → Int} {on : Nat → Bool} {stk bot : List Nat} {sv : Value} {nxt : Nat} {c : Nat → Int} {grp : List (List Nat)} {pe : Nat → Nat} {vl : List Nat} {gv wv g1 g1' : Value} {rest done todo seg : List Nat} {v x : Nat}

theorem Ints.any (h : Ints wr (B + 8) g1 done) : (g1 = .slice none 0 0 ∧ done.length = 0) ∨ ∃ g cap, g1 = .slice (some ⟨g, 0, none⟩) done.length cap ∧ Arr wr g 3 (cap * 1) (done.length * 1) (intf done) ∧ cap ≤ maxLen := by
  rcases h with ⟨rfl, rfl⟩ | ⟨g, cap, rfl, hl, hc, hA⟩
  · exact Or.inl ⟨rfl, rfl⟩
  · exact Or.inr ⟨g, cap, rfl, by rw [Nat.mul_one, Nat.mul_one]; exact hA, hc⟩
theorem Ints.type (h : Ints wr (B + 8) g1 done) : ∀ k t cap m f, g1.ownBlock = some k → t ≠ 3 → ¬ Arr wr k t cap m f := by
  intro k t cap m f hk ht hA
  rcases h with ⟨rfl, _⟩ | ⟨g, cp, rfl, _, _, hS⟩
  · simp [Value.ownBlock] at hk
  · simp [Value.ownBlock] at hk
    subst hk
    exact arr_ne hS hA (fun e => ht e.symm) rfl

theorem pop_start (h : Now w0 B n deg tg wr gv ord low on (seg ++ v :: bot) (v :: rest) sv nxt c grp pe vl) (hW : WalkIs wr (B + 8) wv rest pe) :
    PopS w0 B n ord low bot nxt grp gv wv rest pe on sv [] (seg ++ [v]) (.slice none 0 0) wr := by
  have e : seg ++ [v] ++ bot = seg ++ v :: bot := by simp
  exact ⟨by rw [e]; exact h.mem, by rw [e]; exact h.on_iff, by rw [e]; exact sorted_nodup h.inv.sorted, Or.inl ⟨rfl, rfl⟩, h.grps.less (fun k hk => by
    rcases hk with h | h
    · exact h
    · simp [Value.ownBlock] at h), fun k hk => by simp [Value.ownBlock] at hk, hW⟩

/-- The stack, seen from its end. -/
theorem PopS.top (h : PopS w0 B n ord low bot nxt grp gv wv rest pe on sv done (x :: todo) g1 wr) :
    ∃ sg sc, sv = .slice (some ⟨sg, 0, none⟩) ((todo ++ bot).length + 1) sc ∧ B + 8 ≤ sg ∧ sc ≤ maxLen ∧ (todo ++ bot).length + 1 ≤ sc ∧ wr.cell? ⟨sg, (todo ++ bot).length, none⟩ = some (.int .i64 (x : Nat)) ∧
      Ints wr (B + 8) (.slice (some ⟨sg, 0, none⟩) (todo ++ bot).length sc) (todo ++ bot).reverse := by
  rcases h.mem.stack with ⟨_, h2⟩ | ⟨sg, sc, h1, h2, h3, h4⟩
  · simp at h2
  · have hl : (x :: todo ++ bot).reverse.length = (todo ++ bot).length + 1 := by simp; omega
    rw [hl] at h1 h4
    refine ⟨sg, sc, h1, h2, h3, h4.le, ?_, Or.inr ⟨sg, sc, by rw [List.length_reverse], h2, h3, ?_⟩⟩
    · have := h4.cell (show (todo ++ bot).length < (todo ++ bot).length + 1 by omega)
      rw [this]
      have e : (x :: todo ++ bot).reverse = (todo ++ bot).reverse ++ [x] := by simp
      rw [e]
      have hl2 : (todo ++ bot).reverse.length = (todo ++ bot).length := List.length_reverse
      rw [← hl2, List.getD_eq_getElem?_getD, List.getElem?_concat_length, Option.getD_some]
    · rw [List.length_reverse]
      refine (h4.less (show (todo ++ bot).length ≤ (todo ++ bot).length + 1 by omega)).congr (fun i hi => ?_)
      have e : (x :: todo ++ bot).reverse = (todo ++ bot).reverse ++ [x] := by simp
      have hi' : i < (todo ++ bot).reverse.length := by rw [List.length_reverse]; exact hi
      rw [e]
      simp only [List.getD_eq_getElem?_getD, List.getElem?_append_left hi']

theorem pop_step (h : PopS w0 B n ord low bot nxt grp gv wv rest pe on sv done (x :: todo) g1 wr) {sg sc : Nat} (hsv : sv = .slice (some ⟨sg, 0, none⟩) ((todo ++ bot).length + 1) sc)
    (hin : Ints wr (B + 8) (.slice (some ⟨sg, 0, none⟩) (todo ++ bot).length sc) (todo ++ bot).reverse) {o : Obj}
    (ha : Appended (((wr.setCell ⟨B + 6, 0, none⟩ (.slice (some ⟨sg, 0, none⟩) (todo ++ bot).length sc)).setCell ⟨B + 4, x, none⟩ (.bool false)).alloc o) g1.ownBlock 3 1 done.length 1 (intf done) [.int .i64 (x : Nat)] g1' w5) :
    PopS w0 B n ord low bot nxt grp gv wv rest pe (upd on x false) (.slice (some ⟨sg, 0, none⟩) (todo ++ bot).length sc) (done ++ [x]) todo g1' w5 ∧ ∃ xr xc, g1' = .slice (some ⟨xr, 0, none⟩) (done.length + 1) xc := by
  have hM := (h.mem.setStk _ (todo ++ bot) hin).setOn x false
  have hw : ∀ k, B + 8 ≤ k → ((wr.setCell ⟨B + 6, 0, none⟩ (.slice (some ⟨sg, 0, none⟩) (todo ++ bot).length sc)).setCell ⟨B + 4, x, none⟩ (.bool false)).heap[k]? = wr.heap[k]? := fun k hk => by
    rw [blk_setCell_other _ _ _ _ (by show k ≠ B + 4; omega), blk_setCell_other _ _ _ _ (by show k ≠ B + 6; omega)]
  have hwz : ((wr.setCell ⟨B + 6, 0, none⟩ (.slice (some ⟨sg, 0, none⟩) (todo ++ bot).length sc)).setCell ⟨B + 4, x, none⟩ (.bool false)).heap.size = wr.heap.size := by rw [nblk_setCell, nblk_setCell]
  generalize (wr.setCell ⟨B + 6, 0, none⟩ (.slice (some ⟨sg, 0, none⟩) (todo ++ bot).length sc)).setCell ⟨B + 4, x, none⟩ (.bool false) = w4 at hM hw hwz ha
  have hI : Ints w4 (B + 8) g1 done := h.ints.block (fun k hk => hw k (h.ints.lt k hk).1)
  have hsz := hM.size
  obtain ⟨hI5, hown, xr, xc, hx5⟩ := hI.push (by omega) ha
  have hg : (w4.alloc o).grownBy w5 g1.ownBlock := by
    obtain ⟨_, _, _, _, _, _, _, hg⟩ := ha
    exact hg
  have hsv1 : sv.ownBlock = some sg := by rw [hsv]; rfl
  have hM5 := (hM.alloc o).grown hg (fun k hk => ⟨(hI.lt k hk).1, fun e => h.sep k hk (by rw [hsv1]; exact e.symm)⟩)
  have keep : ∀ k, B + 8 ≤ k → k < wr.heap.size → g1.ownBlock ≠ some k → w5.heap[k]? = wr.heap[k]? := fun k h1 h2 h3 => by
    rw [hg.block k (by rw [nblk_alloc]; omega) (fun e => h3 e.symm), blk_alloc_lt _ _ _ (by omega), hw k h1]
  have hnd := h.nd
  rw [List.cons_append, List.nodup_cons] at hnd
  refine ⟨⟨hM5, fun y => ?_, hnd.2, hI5, ?_, ?_, ?_⟩, xr, xc, hx5⟩
  · by_cases e : y = x
    · rw [e, upd_same]
      exact ⟨fun h => absurd h (by simp), fun hm => absurd hm hnd.1⟩
    · rw [upd_other _ _ e, h.on_iff y, List.cons_append, List.mem_cons]
      exact ⟨fun hm => by rcases hm with h | h; exact absurd h e; exact h, fun hm => Or.inr hm⟩
  · refine h.grps.block (fun k t cap m f h1 h2 h3 _ _ => keep k h1 h2 (fun e => h3 (Or.inr e))) (fun k cap m f hk hA => ?_) (fun k hk => ?_)
    · rcases hk with hk | hk
      · exact h.mem.stack_type k cap m f hk hA
      · exact h.ints.type k 24 cap m f hk (by decide) hA
    · rcases hk with hk | hk
      · left; left; rw [hsv1]; exact hk
      · rcases hown with e | ⟨k', e, hk'⟩
        · left; right; rw [← e]; exact hk
        · right; rw [e] at hk; simp only [Option.some.injEq] at hk; omega
  · intro k hk e
    have e' : sv.ownBlock = some k := by rw [hsv1]; exact e
    rcases hown with e2 | ⟨k', e2, hk'⟩
    · exact h.sep k (by rw [← e2]; exact hk) e'
    · rw [e2] at hk
      simp only [Option.some.injEq] at hk
      have := (h.mem.stack.lt k e').2
      omega
  · refine h.walk.block (fun k hk => ?_)
    obtain ⟨g', e, hl, hlt, hne⟩ := h.walk.own
    rw [e] at hk
    simp only [Option.some.injEq] at hk
    subst hk
    refine keep g' hl hlt (fun e2 => ?_)
    rcases h.ints with ⟨h1, _⟩ | ⟨gi, ci, h1, _, _, hA⟩
    · rw [h1] at e2; simp [Value.ownBlock] at e2
    · rw [h1] at e2
      simp [Value.ownBlock] at e2
      exact hne gi 3 _ _ _ (by decide) hA e2

/-- How append sees the groups. -/
theorem Grps.any {av : Nat → Prop} (h : Grps wr (B + 8) gv grp av) : ∃ f : Nat → Value, ((gv = .slice none 0 0 ∧ grp.length = 0) ∨ ∃ g cap, gv = .slice (some ⟨g, 0, none⟩) grp.length cap ∧ Arr wr g 24 (cap * 1) (grp.length * 1) f ∧ cap ≤ maxLen) ∧
    ∀ g cap n f', gv.ownBlock = some g → Arr wr g 24 cap n f' → n = grp.length → ∀ i, i < grp.length → f i = f' i := by
  rcases h with ⟨rfl, rfl⟩ | ⟨g, cap, r, rc, rfl, hl, hc, hA, hR⟩
  · exact ⟨fun _ => undef, Or.inl ⟨rfl, rfl⟩, fun g cap n f' hg => by simp [Value.ownBlock] at hg⟩
  · refine ⟨_, Or.inr ⟨g, cap, rfl, by simpa using hA, hc⟩, fun g' cap' n f' hg hA' hn i hi => ?_⟩
    simp only [Value.ownBlock, Option.some.injEq] at hg
    subst hg
    have c1 := hA.cell hi
    have c2 := hA'.cell (show i < n by omega)
    rw [c1] at c2
    simpa using c2

/-- The group is closed. -/
theorem pop_end (hN : Now w0 B n deg tg wr gv ord low on (seg ++ v :: bot) (v :: rest) sv nxt c grp pe vl) (hpe : pe v = deg v) (hlow : low v = ord v) (hvis : ∀ v, v < root + 1 → 0 ≤ ord v) {on' : Nat → Bool} {sv' gv' : Value}
    (h : PopS w0 B n ord low bot nxt grp gv wv rest pe on' sv' (seg ++ [v]) [] g1 w5) {xr xc L : Nat} (hg1 : g1 = .slice (some ⟨xr, 0, none⟩) L xc) {o : Obj} {f : Nat → Value}
    (hf : ∀ g cap n f', gv.ownBlock = some g → Arr w5 g 24 cap n f' → n = grp.length → ∀ i, i < grp.length → f i = f' i)
    (ha : Appended (w5.alloc o) gv.ownBlock 24 1 grp.length 1 f [g1] gv' w6) :
    ∃ G, G < um deg ord n + wm deg pe (v :: rest) ∧ Inner w0 B n deg tg root G gv' wv w6 := by
  have hsz := h.mem.size
  have hgr : (w5.alloc o).grownBy w6 gv.ownBlock := by
    obtain ⟨_, _, _, _, _, _, _, hg⟩ := ha
    exact hg
  have hi := h.ints
  subst hg1
  rcases hi with ⟨e, _⟩ | ⟨g', cp, e, hl, hc, hA⟩
  · exact absurd e (by simp)
  simp only [Value.slice.injEq, Option.some.injEq, Addr.mk.injEq, and_true] at e
  obtain ⟨rfl, rfl, rfl⟩ := e
  have hG := Grps.push (h.grps.less (av' := fun k => sv'.ownBlock = some k) (fun k hk => Or.inl hk)) (by omega) hA hl (fun e => h.sep xr rfl e) f hf ha
  have hg24 : ∀ k, gv.ownBlock = some k → B + 8 ≤ k ∧ k < w5.heap.size ∧ ∃ cap n f, Arr w5 k 24 cap n f := h.grps.lt
  have hM := (h.mem.alloc o).grown hgr (fun k hk => by
    obtain ⟨h1, _, _, _, _, hB⟩ := hg24 k hk
    exact ⟨h1, h.mem.stack_ne (by decide) hB⟩)
  have hW : WalkIs w6 (B + 8) wv rest pe := h.walk.block (fun k hk => by
    obtain ⟨g', e, hl, hlt, hne⟩ := h.walk.own
    rw [e] at hk
    simp only [Option.some.injEq] at hk
    subst hk
    rw [hgr.block g' (by rw [nblk_alloc]; omega) (fun e2 => by
      obtain ⟨_, _, _, _, _, hB⟩ := hg24 g' e2.symm
      exact hne g' 24 _ _ _ (by decide) hB rfl), blk_alloc_lt _ _ _ hlt])
  obtain ⟨c', hN'⟩ := hN.close hpe hlow hM (fun x => by rw [h.on_iff x]; simp) hG.1
  refine ⟨_, ?_, _, _, _, _, _, _, _, _, _, _, _, hN', hW, hvis, rfl⟩
  simp only [wm]; omega

/-- No group is closed: the walk goes back. -/
theorem turn_back {u : Nat} (hN : Now w0 B n deg tg wr gv ord low on stk (v :: u :: rest) sv nxt c grp pe vl) (hpe : pe v = deg v) (hlow : low v ≠ ord v) (hu : low u ≤ low v) (hvis : ∀ v, v < root + 1 → 0 ≤ ord v) (hW : WalkIs wr (B + 8) wv (u :: rest) pe) :
    ∃ G, G < um deg ord n + wm deg pe (v :: u :: rest) ∧ Inner w0 B n deg tg root G gv wv wr := by
  have := hN.top
  refine ⟨_, ?_, _, _, _, _, _, _, _, _, _, _, _, hN.back hpe (by omega) hu, hW, hvis, rfl⟩
  simp only [wm]; omega
end
end Go.Proofs.Qxb6604011a.Scc
