import Derived.Test.Qxb6604011aSccPro
import Derived.WalkSmall
namespace Go.Proofs.Qxb6604011a.Scc
open Go.RowKit Go.Deep

/-! One turn of the inner loop: what it leaves. -/
/-- The walk's row, as append sees it. -/
def wf (wn : List Nat) (pe : Nat → Nat) (i : Nat) : Value := if i % 2 = 0 then .int .i64 (wn.reverse.getD (i / 2) 0 : Nat) else .int .i64 (pe (wn.reverse.getD (i / 2) 0) : Nat)

section
variable {w0 wr w' w1 w3 : World} {B n root : Nat} {deg : Nat → Nat} {tg : Nat → Nat → Nat} {gv : Value} {ord low : Nat → Int} {on : Nat → Bool} {stk wn : List Nat} {sv : Value} {nxt : Nat} {c : Nat → Int} {grp : List (List Nat)} {pe pe' : Nat → Nat} {vl : List Nat} {g cap v y : Nat} {rest : List Nat}

theorem Now.drew (h : Now w0 B n deg tg wr gv ord low on stk wn sv nxt c grp pe vl) : Now w0 B n deg tg wr.drew gv ord low on stk wn sv nxt c grp pe vl :=
  h.world h.mem.drew (fun _ _ _ _ _ _ _ _ _ _ => rfl)
theorem Now.drewN (h : Now w0 B n deg tg wr gv ord low on stk wn sv nxt c grp pe vl) (k : Nat) : Now w0 B n deg tg (wr.drewN k) gv ord low on stk wn sv nxt c grp pe vl :=
  h.world (h.mem.step (below_drewN h.mem.below k) h.mem.size (fun _ _ => rfl) (fun _ _ => rfl)) (fun _ _ _ _ _ _ _ _ _ _ => rfl)
theorem WalkIs.drewN {lo : Nat} {wv : Value} (h : WalkIs wr lo wv wn pe) (k : Nat) : WalkIs (wr.drewN k) lo wv wn pe := h.block (fun _ _ => rfl)
/-- The count of draws is forgotten. -/
theorem at_drewN {P : Program} {code : Code} {Q : Exit → Act → World → Prop} {a : Act} {w : World} {p : Addr} {x : Value} (h : ∀ k, Code.wp P code Q a ((w.drewN k).setCell p x)) (k : Nat) : Code.wp P code Q a ((w.drewN k).setCell p x) := h k
theorem at_drewN' {P : Program} {code : Code} {Q : Exit → Act → World → Prop} {a : Act} {w : World} (h : ∀ k, Code.wp P code Q a (w.drewN k)) (k : Nat) : Code.wp P code Q a (w.drewN k) := h k
theorem WalkIs.drew {lo : Nat} {wv : Value} (h : WalkIs wr lo wv wn pe) : WalkIs wr.drew lo wv wn pe := h.block (fun _ _ => rfl)

/-- A store into the walk's row. -/
theorem Now.setWalk (h : Now w0 B n deg tg wr gv ord low on stk wn sv nxt c grp pe vl) {len : Nat} {wn' : List Nat} (hW : WalkIs wr (B + 8) (.slice (some ⟨g, 0, none⟩) len cap) wn' pe') (i : Nat) (x : Value) :
    Now w0 B n deg tg (wr.setCell ⟨g, i, none⟩ x) gv ord low on stk wn sv nxt c grp pe vl := by
  obtain ⟨g', e, hl, _, hne⟩ := hW.own
  simp only [Value.ownBlock, Option.some.injEq] at e
  subst e
  refine h.world (h.mem.setOther _ _ hl ?_) (fun k t cap m f _ _ _ ht hA => blk_setCell_other _ _ _ _ (hne k t cap m f (by rcases ht with e | e <;> rw [e] <;> decide) hA))
  obtain ⟨_, _, hA⟩ : ∃ cap m, ∃ f, Arr wr g 35 cap m f := by
    obtain ⟨g'', cap', e, _, _, hA⟩ := hW
    simp only [Value.slice.injEq, Option.some.injEq, Addr.mk.injEq, and_true] at e
    obtain ⟨rfl, _⟩ := e
    exact ⟨_, _, _, hA⟩
  obtain ⟨f, hA⟩ := hA
  exact h.mem.stack_ne (by decide) hA

theorem Now.top (h : Now w0 B n deg tg wr gv ord low on stk (v :: rest) sv nxt c grp pe vl) : v < n ∧ 0 ≤ ord v ∧ pe v ≤ deg v ∧ v ∈ stk ∧ v ∉ rest ∧ low v ≤ ord v ∧ ord v < nxt := by
  have h1 := h.inv.wsub v List.mem_cons_self
  have h2 := h.inv.stk_in v h1.1
  have h3 := sorted_nodup h.inv.wsorted
  rw [List.nodup_cons] at h3
  exact ⟨h2.1, h2.2.1, h1.2, h1.1, h3.1, (h.inv.lows v h1.1).1, h2.2.2.1⟩

/-- The edge leads to a node that has been met, and the walk stays. -/
theorem turn_stay (h : Now w0 B n deg tg wr gv ord low on stk (v :: rest) sv nxt c grp pe vl) {wv : Value} (hW : WalkIs wr (B + 8) wv (v :: rest) (upd pe v (pe v + 1))) (hvis : ∀ v, v < root + 1 → 0 ≤ ord v)
    (hlt : pe v < deg v) (ht : 0 ≤ ord (tg v (pe v))) (hlow : tg v (pe v) ∈ stk → low v ≤ ord (tg v (pe v))) :
    ∃ G, G < um deg ord n + wm deg pe (v :: rest) ∧ Inner w0 B n deg tg root G gv wv wr := by
  refine ⟨_, ?_, _, _, _, _, _, _, _, _, _, _, _, h.advance v List.mem_cons_self hlt ht hlow, hW, hvis, rfl⟩
  have := wm_advance (deg := deg) h.top.2.2.2.2.1 hlt
  omega

/-- low v is lowered to the order of the edge's target, which lies upon the stack. -/
theorem turn_lower (h : Now w0 B n deg tg wr gv ord low on stk (v :: rest) sv nxt c grp pe vl) {wv : Value} (hW : WalkIs wr (B + 8) wv (v :: rest) (upd pe v (pe v + 1))) (hvis : ∀ v, v < root + 1 → 0 ≤ ord v)
    (hlt : pe v < deg v) (hy : tg v (pe v) ∈ stk) :
    ∃ G, G < um deg ord n + wm deg pe (v :: rest) ∧ Inner w0 B n deg tg root G gv wv ((wr.setCell ⟨B + 2, v, none⟩ (.int .i64 (min (low v) (ord (tg v (pe v)))))).drew) := by
  have hN := h.lower v _ List.mem_cons_self hy (Reach.edge hlt) _ rfl
  refine turn_stay hN ?_ hvis hlt ((h.inv.stk_in _ hy).2.1) (fun _ => by rw [upd_same]; omega)
  refine hW.block (fun k hk => ?_)
  obtain ⟨g', e, hl, _, _⟩ := hW.own
  rw [e] at hk
  simp only [Option.some.injEq] at hk
  subst hk
  show (wr.setCell _ _).heap[g']? = _
  exact blk_setCell_other _ _ _ _ (by show g' ≠ B + 2; omega)

/-- The walk behind a visit. -/
theorem walk_visit {wv : Value} (hs : Side B sv wr w1) (h : Now w0 B n deg tg wr gv ord low on stk (v :: rest) sv nxt c grp pe vl) (hW : WalkIs wr (B + 8) wv wn pe') : WalkIs w1 (B + 8) wv wn pe' := by
  refine hW.block (fun k hk => ?_)
  obtain ⟨g', e, hl, hlt, hne⟩ := hW.own
  rw [e] at hk
  simp only [Option.some.injEq] at hk
  subst hk
  refine hs.2 g' hl hlt (fun e2 => ?_)
  rcases h.mem.stack with ⟨rfl, _⟩ | ⟨g, cp, rfl, _, _, hS⟩
  · simp [Value.ownBlock] at e2
  · simp [Value.ownBlock] at e2
    exact hne _ _ _ _ _ (by decide) hS e2.symm

/-- The edge leads to a node not met before: it has been met, and the walk goes on from it. -/
theorem turn_push (h : Now w0 B n deg tg wr gv ord low on stk (v :: rest) sv nxt c grp pe vl) {wv sv' v' : Value} (hW : WalkIs w1 (B + 8) wv (v :: rest) (upd pe v (pe v + 1))) (hvis : ∀ v, v < root + 1 → 0 ≤ ord v)
    (hlt : pe v < deg v) (hy : tg v (pe v) = y) (hu : ord y < 0)
    (hM : Mem w0 B n w1 (upd ord y nxt) (upd low y nxt) (upd on y true) (y :: stk) sv' (nxt + 1)) (ho : sv'.ownBlock = sv.ownBlock ∨ ∃ k, sv'.ownBlock = some k ∧ wr.heap.size < k) (hs : Side B sv wr w1) {o : Obj}
    (ha : Appended (w1.alloc o) wv.ownBlock 35 2 (rest.length + 1) 1 (wf (v :: rest) (upd pe v (pe v + 1))) [.int .i64 (y : Nat), .int .i64 0] v' w3) :
    ∃ G, G < um deg ord n + wm deg pe (v :: rest) ∧ Inner w0 B n deg tg root G gv v' w3 := by
  obtain ⟨hvn, hv0, hpd, hvs, hvr, hlv, hvx⟩ := h.top
  have hyn : y < n := by rw [← hy]; exact h.inv.rng v _ hvn hlt
  have hyv : y ≠ v := fun e => by rw [e] at hu; omega
  have hpy := (h.inv.unv y hyn hu).2
  have hN1 := h.visit hyn hu (fun p hp => by
    have hvy : Reach deg tg v y := hy ▸ Reach.edge hlt
    rcases List.mem_cons.1 hp with rfl | hp'
    · exact hvy
    · refine (h.inv.i4 p v hp hvs ?_).trans hvy
      have := h.inv.wsorted
      rw [List.pairwise_cons] at this
      have := this.1 p hp'
      omega) hM ho hs
  have hN2 := hN1.advance v (List.mem_cons_of_mem _ List.mem_cons_self) hlt (by rw [hy, upd_same]; omega) (fun _ => by
    rw [hy, upd_same, upd_other _ _ (Ne.symm hyv)]; omega)
  obtain ⟨g, hg1, hg2, hg3, hg4⟩ := hW.own
  have hsz := hM.size
  have hgr : (w1.alloc o).grownBy w3 wv.ownBlock := by
    obtain ⟨_, _, _, _, _, _, _, hg⟩ := ha
    exact hg
  have hne : some g ≠ sv'.ownBlock := fun e2 => by
    rcases hM.stack with ⟨rfl, _⟩ | ⟨g', cp, rfl, _, _, hS⟩
    · simp [Value.ownBlock] at e2
    · simp [Value.ownBlock] at e2
      exact hg4 _ _ _ _ _ (by decide) hS e2.symm
  have hN3 := hN2.world ((hM.alloc o).grown hgr (fun k hk => by
    rw [hg1] at hk
    simp only [Option.some.injEq] at hk
    subst hk
    exact ⟨hg2, hne⟩)) (fun k t cap m f h1 h2 _ ht hA => by
    rw [hgr.block k (by rw [nblk_alloc]; omega) (fun e => by
      rw [hg1] at e
      simp only [Option.some.injEq] at e
      exact hg4 k t cap m f (by rcases ht with e | e <;> rw [e] <;> decide) hA e), blk_alloc_lt _ _ _ h2])
  refine ⟨_, ?_, _, _, _, _, _, _, _, _, _, _, _, hN3, WalkIs.push hW (by rw [upd_other _ _ hyv]; exact hpy) (by omega) ha, fun x hx => ?_, rfl⟩
  · have h1 := wm_advance (deg := deg) hvr hlt
    have h2 := um_visit (deg := deg) (x := (nxt : Int)) hu (by omega) n hyn
    have h3 : wm deg (upd pe v (pe v + 1)) (y :: v :: rest) = (deg y - 0 + 1) + wm deg (upd pe v (pe v + 1)) (v :: rest) := by
      simp only [wm]
      rw [upd_other pe _ hyv, hpy]
    omega
  · by_cases e : x = y
    · rw [e, upd_same]; omega
    · rw [upd_other _ _ e]; exact hvis x hx
end
end Go.Proofs.Qxb6604011a.Scc
