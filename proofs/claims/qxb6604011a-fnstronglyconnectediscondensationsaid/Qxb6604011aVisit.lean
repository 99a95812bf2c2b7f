import Derived.Test.Qxb6604011aMem
import Derived.WalkKit
import Derived.WalkSpells
import Derived.WalkLawsBesides
import Derived.Handy
import Derived.Deep.DeepCutAuto
import Derived.BigQuiet
import Derived.Deep.QuietTactic
namespace Go.Proofs.Qxb6604011a.Scc
open Go.RowKit Go.Deep

/-- What a step leaves of the rows from B + 8 on, the stack's own aside. -/
def Side (B : Nat) (sv : Value) (wr w' : World) : Prop :=
  wr.heap.size ≤ w'.heap.size ∧ ∀ k, B + 8 ≤ k → k < wr.heap.size → some k ≠ sv.ownBlock → w'.heap[k]? = wr.heap[k]?

def Visited (w0 : World) (B n v : Nat) (ord low : Nat → Int) (on : Nat → Bool) (stk : List Nat) (sv : Value) (nxt : Nat) (wr : World) (e : Ending) (w' : World) : Prop :=
  e = .returned (.tuple #[]) ∧ ∃ sv', Mem w0 B n w' (upd ord v nxt) (upd low v nxt) (upd on v true) (v :: stk) sv' (nxt + 1) ∧ (sv'.ownBlock = sv.ownBlock ∨ ∃ k, sv'.ownBlock = some k ∧ wr.heap.size < k) ∧ Side B sv wr w'

set_option maxHeartbeats 1000000 in
theorem visit_any (w0 wr : World) (B n v : Nat) (ord low : Nat → Int) (on : Nat → Bool) (stk : List Nat) (sv : Value) (nxt : Nat) (h : Mem w0 B n wr ord low on stk sv nxt) (hv : v < n) (hlen : stk.length ≤ 65536) (hnx : nxt ≤ 65536) :
    Calls Try.prog 15 #[.int .i64 v, .pointer (some ⟨B + 7, 0, none⟩), .pointer (some ⟨B + 1, 0, none⟩), .pointer (some ⟨B + 3, 0, none⟩), .pointer (some ⟨B + 6, 0, none⟩), .pointer (some ⟨B + 5, 0, none⟩)] wr
      (Visited w0 B n v ord low on stk sv nxt wr) := by
  obtain ⟨i0, hi, hz0, hz1, hz2⟩ := info_parts info3
  have q1 : wr.cell? ⟨B + 1, 0, none⟩ = some (.slice (some ⟨B, 0, none⟩) n n) := h.v_ord.cell (by omega)
  have q2 : wr.cell? ⟨B + 3, 0, none⟩ = some (.slice (some ⟨B + 2, 0, none⟩) n n) := h.v_low.cell (by omega)
  have q3 : wr.cell? ⟨B + 7, 0, none⟩ = some (.int .i64 nxt) := h.v_nxt.cell (by omega)
  have q4 := h.a_ord.cell hv
  have q5 := h.a_low.cell hv
  have q6 := h.a_ord.frozen v
  have q7 := h.a_low.frozen v
  have q8 := h.v_nxt.frozen 0
  have H1 : Hid (Mem w0 B n (((wr.setCell ⟨B, v, none⟩ (.int .i64 nxt)).setCell ⟨B + 2, v, none⟩ (.int .i64 nxt)).setCell ⟨B + 7, 0, none⟩ (.int .i64 ((nxt : Int) + 1))).drew (upd ord v nxt) (upd low v nxt) on stk sv (nxt + 1)) :=
    (((h.setOrd v nxt).setLow v nxt).setNxt (nxt + 1)).drew
  have hS1 : Hid (Side B sv wr (((wr.setCell ⟨B, v, none⟩ (.int .i64 nxt)).setCell ⟨B + 2, v, none⟩ (.int .i64 nxt)).setCell ⟨B + 7, 0, none⟩ (.int .i64 ((nxt : Int) + 1))).drew) := by
    refine ⟨?_, fun k h1 h2 h3 => ?_⟩
    · show wr.heap.size ≤ (((wr.setCell _ _).setCell _ _).setCell _ _).heap.size
      rw [nblk_setCell, nblk_setCell, nblk_setCell]; exact Nat.le_refl _
    · show (((wr.setCell _ _).setCell _ _).setCell _ _).heap[k]? = _
      rw [blk_setCell_other _ _ _ _ (by show k ≠ B + 7; omega), blk_setCell_other _ _ _ _ (by show k ≠ B + 2; omega), blk_setCell_other _ _ _ _ (by show k ≠ B; omega)]
  clear h
  go_enter Try.func15, Try.ntmps15
  go_wp2
  go_region
  go_upto_region 2 with fail
  generalize (((wr.setCell ⟨B, v, none⟩ (.int .i64 nxt)).setCell ⟨B + 2, v, none⟩ (.int .i64 nxt)).setCell ⟨B + 7, 0, none⟩ (.int .i64 ((nxt : Int) + 1))).drew = w2 at H1 hS1 ⊢
  clear q1 q2 q3 q4 q5 q6 q7 q8
  have c1 : w2.cell? ⟨B + 6, 0, none⟩ = some sv := H1.out.v_stk.cell (by omega)
  have hsz := H1.out.size
  have c2 := H1.out.v_stk.frozen 0
  have hst := H1.out.stack
  rcases hst with ⟨hsv, hnil⟩ | ⟨g, cap, hsv, hlo, hcm, hA⟩
  · have hstk : stk = [] := by simpa using hnil
    subst hsv hstk
    go_wp2_with (at_builtin; refine wpList_append_first _ rfl (.tmp 17) (.tmp 19) 24 rfl 3 i0 (.int .i64 0) 1 8 Try.underlying24 hi hz0 hz1 hz2 rfl (fun i => .int .i64 (([] : List Nat).getD i 0 : Nat)) rfl ⟨w2.heap.size, 0, none⟩ 1 1 [.int .i64 v] rfl rfl ?cc ?cd ?ce ?cf ?_)
    case cc =>
      intro j u hj
      match j, hj with
      | 0, hj => simp at hj; subst hj; simp [Addr.add]
    case cd => omega
    case ce => unfold maxLen; omega
    case cf => omega
    intro v' w3 hap
    obtain ⟨hI, hown, gg, gc, hv'⟩ := H1.out.stack.push (by omega) hap
    obtain ⟨_, _, _, _, _, _, _, hg⟩ := hap
    simp only [List.reverse_nil, List.length_nil, Nat.zero_add] at hv'
    have HM : Hid (Mem w0 B n (w3.setCell ⟨B + 6, 0, none⟩ v') (upd ord v nxt) (upd low v nxt) on (v :: []) v' (nxt + 1)) := (H1.out.alloc _).pushed hg v' (v :: []) (by rw [List.reverse_cons]; exact hI)
    have z1 : w3.cell? ⟨B + 6, 0, none⟩ = some (.slice none 0 0) := ((H1.out.alloc _).v_stk.of_block (hg.block _ (by rw [nblk_alloc]; omega) (fun e => by have := (H1.out.stack.lt _ e.symm).1; omega))).cell (by omega)
    have z2 : w3.frozen? ⟨B + 6, 0, none⟩ = false := ((H1.out.alloc _).v_stk.of_block (hg.block _ (by rw [nblk_alloc]; omega) (fun e => by have := (H1.out.stack.lt _ e.symm).1; omega))).frozen 0
    have HS : Hid (Side B (.slice none 0 0) wr (w3.setCell ⟨B + 6, 0, none⟩ v')) := by
      have a := hS1.out
      have a1 := a.1
      have b := hg.size
      rw [nblk_alloc] at b
      refine ⟨by rw [nblk_setCell]; omega, fun k h1 h2 h3 => ?_⟩
      rw [blk_setCell_other _ _ _ _ (by show k ≠ B + 6; omega), hg.block k (by rw [nblk_alloc]; omega) h3, blk_alloc_lt _ _ _ (by omega)]
      exact a.2 k h1 h2 h3
    have HO : Hid (v'.ownBlock = (Value.slice none 0 0).ownBlock ∨ ∃ k, v'.ownBlock = some k ∧ wr.heap.size < k) := by
      rcases hown with e | ⟨k, e, hk⟩
      · exact Or.inl e
      · exact Or.inr ⟨k, e, by have := hS1.out.1; omega⟩
    clear hI hown hg c1 c2
    rw [hv'] at HM HS HO ⊢
    go_upto_region 3 with fail
    generalize w3.setCell ⟨B + 6, 0, none⟩ (.slice (some ⟨gg, 0, none⟩) 1 gc) = w4 at HM HS ⊢
    have y1 : w4.cell? ⟨B + 5, 0, none⟩ = some (.slice (some ⟨B + 4, 0, none⟩) n n) := HM.out.v_on.cell (by omega)
    have y2 := HM.out.a_on.cell hv
    have y3 := HM.out.a_on.frozen v
    have HM' : Hid (Mem w0 B n (w4.setCell ⟨B + 4, v, none⟩ (.bool true)) (upd ord v nxt) (upd low v nxt) (upd on v true) (v :: []) _ (nxt + 1)) := HM.out.setOn v true
    have HS' : Hid (Side B (.slice none 0 0) wr (w4.setCell ⟨B + 4, v, none⟩ (.bool true))) := by
      refine ⟨by rw [nblk_setCell]; exact HS.out.1, fun k h1 h2 h3 => ?_⟩
      rw [blk_setCell_other _ _ _ _ (by show k ≠ B + 4; omega)]
      exact HS.out.2 k h1 h2 h3
    go_wp2
    go_end0
    exact ⟨rfl, _, HM'.out, HO.out, HS'.out⟩
  · have HAr : Hid (Arr w2 g 3 cap stk.reverse.length (fun i => .int .i64 (stk.reverse.getD i 0 : Nat))) := hA
    have hlen2 : stk.reverse.length ≤ 65536 := by rw [List.length_reverse]; exact hlen
    obtain ⟨m, hm⟩ : ∃ m, m = stk.reverse.length := ⟨_, rfl⟩
    rw [← hm] at hsv HAr hlen2
    have Hm : Hid (m = stk.reverse.length) := hm
    have HSV : Hid (sv = .slice (some ⟨g, 0, none⟩) m cap) := hsv
    clear hm hA
    subst hsv
    go_wp2_with (at_builtin; refine wpList_append_arr _ rfl (.tmp 17) (.tmp 19) 24 rfl 3 i0 (.int .i64 0) 1 8 Try.underlying24 hi hz0 hz1 hz2 rfl g m cap (fun i => .int .i64 (stk.reverse.getD i 0 : Nat)) rfl ?ca ?cb ⟨w2.heap.size, 0, none⟩ 1 1 [.int .i64 v] rfl rfl ?cc ?cd ?ce ?cf ?_)
    case ca => exact HAr.out.alloc _
    case cd => rfl
    case ce => unfold maxLen; omega
    case cf => omega
    intro v' w3 hap
    rw [Hm.out] at hap
    obtain ⟨hI, hown, gg, gc, hv'⟩ := H1.out.stack.push (by omega) hap
    obtain ⟨_, _, _, _, _, _, _, hg⟩ := hap
    rw [← Hm.out] at hv'
    have HM : Hid (Mem w0 B n (w3.setCell ⟨B + 6, 0, none⟩ v') (upd ord v nxt) (upd low v nxt) on (v :: stk) v' (nxt + 1)) := (H1.out.alloc _).pushed hg v' (v :: stk) (by rw [List.reverse_cons]; exact hI)
    have z1 : w3.cell? ⟨B + 6, 0, none⟩ = some (.slice (some ⟨g, 0, none⟩) m cap) := ((H1.out.alloc _).v_stk.of_block (hg.block _ (by rw [nblk_alloc]; omega) (fun e => by have := (H1.out.stack.lt _ e.symm).1; omega))).cell (by omega)
    have z2 : w3.frozen? ⟨B + 6, 0, none⟩ = false := ((H1.out.alloc _).v_stk.of_block (hg.block _ (by rw [nblk_alloc]; omega) (fun e => by have := (H1.out.stack.lt _ e.symm).1; omega))).frozen 0
    have HS : Hid (Side B (.slice (some ⟨g, 0, none⟩) m cap) wr (w3.setCell ⟨B + 6, 0, none⟩ v')) := by
      have a := hS1.out
      have a1 := a.1
      have b := hg.size
      rw [nblk_alloc] at b
      refine ⟨by rw [nblk_setCell]; omega, fun k h1 h2 h3 => ?_⟩
      rw [blk_setCell_other _ _ _ _ (by show k ≠ B + 6; omega), hg.block k (by rw [nblk_alloc]; omega) h3, blk_alloc_lt _ _ _ (by omega)]
      exact a.2 k h1 h2 h3
    have HO : Hid (v'.ownBlock = (Value.slice (some ⟨g, 0, none⟩) m cap).ownBlock ∨ ∃ k, v'.ownBlock = some k ∧ wr.heap.size < k) := by
      rcases hown with e | ⟨k, e, hk⟩
      · exact Or.inl e
      · exact Or.inr ⟨k, e, by have := hS1.out.1; omega⟩
    clear hI hown hg c1 c2
    rw [hv'] at HM HS HO ⊢
    go_upto_region 3 with fail
    generalize w3.setCell ⟨B + 6, 0, none⟩ (.slice (some ⟨gg, 0, none⟩) (m + 1) gc) = w4 at HM HS ⊢
    have y1 : w4.cell? ⟨B + 5, 0, none⟩ = some (.slice (some ⟨B + 4, 0, none⟩) n n) := HM.out.v_on.cell (by omega)
    have y2 := HM.out.a_on.cell hv
    have y3 := HM.out.a_on.frozen v
    have HM' : Hid (Mem w0 B n (w4.setCell ⟨B + 4, v, none⟩ (.bool true)) (upd ord v nxt) (upd low v nxt) (upd on v true) (v :: stk) _ (nxt + 1)) := HM.out.setOn v true
    have HS' : Hid (Side B (.slice (some ⟨g, 0, none⟩) m cap) wr (w4.setCell ⟨B + 4, v, none⟩ (.bool true))) := by
      refine ⟨by rw [nblk_setCell]; exact HS.out.1, fun k h1 h2 h3 => ?_⟩
      rw [blk_setCell_other _ _ _ _ (by show k ≠ B + 4; omega)]
      exact HS.out.2 k h1 h2 h3
    go_wp2
    go_end0
    exact ⟨rfl, _, HM'.out, HO.out, HS'.out⟩
end Go.Proofs.Qxb6604011a.Scc
