import Derived.Test.Qxb6604011aNow
import Derived.Deep.LoopGhost
namespace Go.Proofs.Qxb6604011a.Scc
open Go.RowKit Go.Deep

/-- The first loop: order filled with -1 up to k; four blocks so far. -/
def Fill (w0 : World) (B n k : Nat) (wr : World) : Prop :=
  Below B w0 wr ∧ wr.heap.size = B + 4 ∧ Arr wr B 3 n n (fun i => .int .i64 (if i < k then -1 else 0)) ∧ Arr wr (B + 1) 24 1 1 (fun _ => .slice (some ⟨B, 0, none⟩) n n) ∧
    Arr wr (B + 2) 3 n n (fun _ => .int .i64 0) ∧ Arr wr (B + 3) 24 1 1 (fun _ => .slice (some ⟨B + 2, 0, none⟩) n n)

theorem Arr_one (w : World) (x : Value) (t : TypeId) : Arr (w.alloc (.cells #[x] t)) w.heap.size t 1 1 (fun _ => x) :=
  Arr_alloc w #[x] t (fun _ => x) (fun i hi => by
    have : i = 0 := by simp at hi; omega
    subst this; rfl)
theorem fill_start {w : World} {B n : Nat} (hB : w.heap.size = B) : Fill w B n 0 ((((w.alloc (.cells (madeCells #[.int .i64 0] n) 3)).alloc (.cells #[.slice (some ⟨B, 0, none⟩) n n] 24)).alloc (.cells (madeCells #[.int .i64 0] n) 3)).alloc (.cells #[.slice (some ⟨B + 2, 0, none⟩) n n] 24)) := by
  subst hB
  have a1 := Arr_made w (.int .i64 0) n 3
  have a2 := Arr_one (w.alloc (.cells (madeCells #[.int .i64 0] n) 3)) (.slice (some ⟨w.heap.size, 0, none⟩) n n) 24
  have a3 := Arr_made ((w.alloc (.cells (madeCells #[.int .i64 0] n) 3)).alloc (.cells #[.slice (some ⟨w.heap.size, 0, none⟩) n n] 24)) (.int .i64 0) n 3
  have a4 := Arr_one (((w.alloc (.cells (madeCells #[.int .i64 0] n) 3)).alloc (.cells #[.slice (some ⟨w.heap.size, 0, none⟩) n n] 24)).alloc (.cells (madeCells #[.int .i64 0] n) 3)) (.slice (some ⟨w.heap.size + 2, 0, none⟩) n n) 24
  simp only [nblk_alloc] at a2 a3 a4
  refine ⟨(((((Below.refl _ _).alloc (Nat.le_refl _) _).alloc ?_ _).alloc ?_ _).alloc ?_ _), ?_, (((a1.alloc _).alloc _).alloc _).congr (fun i _ => by simp), ((a2.alloc _).alloc _), (a3.alloc _), a4⟩
  · rw [nblk_alloc]; omega
  · rw [nblk_alloc, nblk_alloc]; omega
  · rw [nblk_alloc, nblk_alloc, nblk_alloc]; omega
  · rw [nblk_alloc, nblk_alloc, nblk_alloc, nblk_alloc]
theorem Fill.step {w0 wr : World} {B n k : Nat} (h : Fill w0 B n k wr) : Fill w0 B n (k + 1) (wr.setCell ⟨B, k, none⟩ (.int .i64 (-1))) := by
  obtain ⟨h1, h2, h3, h4, h5, h6⟩ := h
  have hk : ∀ j, j ≠ B → (wr.setCell ⟨B, k, none⟩ (.int .i64 (-1))).heap[j]? = wr.heap[j]? := fun j hj => blk_setCell_other _ _ _ _ hj
  refine ⟨h1.setCell (Nat.le_refl _) _, by rw [nblk_setCell]; exact h2, (h3.set k _).congr (fun i hi => ?_), h4.of_block (hk _ (by omega)), h5.of_block (hk _ (by omega)), h6.of_block (hk _ (by omega))⟩
  by_cases e : i = k
  · subst e; simp
  · by_cases e2 : i < k
    · simp [e, e2, show i < k + 1 by omega]
    · simp [e, e2, show ¬ i < k + 1 by omega]

theorem mem_start {w0 wr : World} {B n : Nat} (h : Fill w0 B n n wr) :
    Mem w0 B n ((((wr.alloc (.cells (madeCells #[.bool false] n) 4)).alloc (.cells #[.slice (some ⟨B + 4, 0, none⟩) n n] 30)).alloc (.cells #[.slice none 0 0] 24)).alloc (.cells #[.int .i64 0] 3)) (fun _ => -1) (fun _ => 0) (fun _ => false) [] (.slice none 0 0) 0 := by
  obtain ⟨h1, h2, h3, h4, h5, h6⟩ := h
  have a1 := Arr_made wr (.bool false) n 4
  have a2 := Arr_one (wr.alloc (.cells (madeCells #[.bool false] n) 4)) (.slice (some ⟨B + 4, 0, none⟩) n n) 30
  have a3 := Arr_one ((wr.alloc (.cells (madeCells #[.bool false] n) 4)).alloc (.cells #[.slice (some ⟨B + 4, 0, none⟩) n n] 30)) (.slice none 0 0) 24
  have a4 := Arr_one (((wr.alloc (.cells (madeCells #[.bool false] n) 4)).alloc (.cells #[.slice (some ⟨B + 4, 0, none⟩) n n] 30)).alloc (.cells #[.slice none 0 0] 24)) (.int .i64 0) 3
  simp only [nblk_alloc, h2] at a1 a2 a3 a4
  refine ⟨((((h1.alloc (by omega) _).alloc ?_ _).alloc ?_ _).alloc ?_ _), ?_, ((((h3.alloc _).alloc _).alloc _).alloc _).congr (fun i hi => by simp [hi]), ((((h4.alloc _).alloc _).alloc _).alloc _), ((((h5.alloc _).alloc _).alloc _).alloc _),
    ((((h6.alloc _).alloc _).alloc _).alloc _), (((a1.alloc _).alloc _).alloc _), ((a2.alloc _).alloc _), (a3.alloc _), a4, Or.inl ⟨rfl, rfl⟩⟩
  · rw [nblk_alloc]; omega
  · rw [nblk_alloc, nblk_alloc]; omega
  · rw [nblk_alloc, nblk_alloc, nblk_alloc]; omega
  · rw [nblk_alloc, nblk_alloc, nblk_alloc, nblk_alloc]; omega
theorem now_start {w0 wr : World} {B n : Nat} {deg : Nat → Nat} {tg : Nat → Nat → Nat} (ht : ∀ i k, i < n → k < deg i → tg i k < n)
    (h : Mem w0 B n wr (fun _ => -1) (fun _ => 0) (fun _ => false) [] (.slice none 0 0) 0) :
    Now w0 B n deg tg wr (.slice none 0 0) (fun _ => -1) (fun _ => 0) (fun _ => false) [] [] (.slice none 0 0) 0 (fun _ => -1) [] (fun _ => 0) [] :=
  ⟨h, Inv.start ht, Or.inl ⟨rfl, rfl⟩, fun v => by simp, List.Pairwise.nil, fun v => by simp, rfl, fun j v hj => absurd hj (by simp), fun j hj => absurd hj (by simp)⟩

/-- Between two roots: nothing on the stack, every node below 'root' met. -/
def Outer (w0 : World) (B n : Nat) (deg : Nat → Nat) (tg : Nat → Nat → Nat) (root : Nat) (gv : Value) (wr : World) : Prop :=
  ∃ (ord low : Nat → Int) (on : Nat → Bool) (sv : Value) (nxt : Nat) (c : Nat → Int) (grp : List (List Nat)) (pe : Nat → Nat) (vl : List Nat), Now w0 B n deg tg wr gv ord low on [] [] sv nxt c grp pe vl ∧ ∀ v, v < root → 0 ≤ ord v
/-- Within a walk: G turns at most are to come. -/
def Inner (w0 : World) (B n : Nat) (deg : Nat → Nat) (tg : Nat → Nat → Nat) (root G : Nat) (gv wv : Value) (wr : World) : Prop :=
  ∃ (ord low : Nat → Int) (on : Nat → Bool) (stk wn : List Nat) (sv : Value) (nxt : Nat) (c : Nat → Int) (grp : List (List Nat)) (pe : Nat → Nat) (vl : List Nat), Now w0 B n deg tg wr gv ord low on stk wn sv nxt c grp pe vl ∧ WalkIs wr (B + 8) wv wn pe ∧ (∀ v, v < root + 1 → 0 ≤ ord v) ∧ G = um deg ord n + wm deg pe wn

/-- What stronglyConnected hands back. -/
def SccOut (B n : Nat) (deg : Nat → Nat) (tg : Nat → Nat → Nat) (gv : Value) (w' : World) : Prop :=
  ∃ (c : Nat → Int) (grp : List (List Nat)), Grps w' (B + 8) gv grp (fun _ => False) ∧ (∀ v, v < n → 0 ≤ c v) ∧ (∀ v, 0 ≤ c v → v < n ∧ c v < (grp.length : Nat)) ∧ (∀ v, c v < 0 → c v = -1) ∧ (∀ j v, j < grp.length → (v ∈ grp.getD j [] ↔ c v = j)) ∧
    (∀ j, j < grp.length → (grp.getD j []).Nodup ∧ grp.getD j [] ≠ []) ∧ (∀ v, 0 ≤ c v → ∀ k, k < deg v → 0 ≤ c (tg v k) ∧ c (tg v k) ≤ c v) ∧ (∀ u v, 0 ≤ c u → c u = c v → Reach deg tg u v)

theorem Outer.out {w0 wr : World} {B n : Nat} {deg : Nat → Nat} {tg : Nat → Nat → Nat} {gv : Value} (h : Outer w0 B n deg tg n gv wr) : SccOut B n deg tg gv wr ∧ Below B w0 wr := by
  obtain ⟨ord, low, on, sv, nxt, c, grp, pe, vl, hN, hv⟩ := h
  refine ⟨⟨c, grp, hN.grps.less (fun _ h => h.elim), fun v hv' => ?_, fun v hc => ⟨(hN.inv.plc v hc).1, (hN.inv.plc v hc).2.2.1⟩, hN.inv.cneg, hN.gmem, hN.gnd, hN.inv.cls, hN.inv.scc⟩, hN.mem.below⟩
  rcases hN.inv.vis v hv' (hv v hv') with h | h
  · exact absurd h (by simp)
  · exact h
theorem Inner.leave {w0 wr : World} {B n root : Nat} {deg : Nat → Nat} {tg : Nat → Nat → Nat} {gv : Value} {ord low : Nat → Int} {on : Nat → Bool} {stk : List Nat} {sv : Value} {nxt : Nat} {c : Nat → Int} {grp : List (List Nat)} {pe : Nat → Nat} {vl : List Nat}
    (hN : Now w0 B n deg tg wr gv ord low on stk [] sv nxt c grp pe vl) (hv : ∀ v, v < root + 1 → 0 ≤ ord v) : Outer w0 B n deg tg (root + 1) gv wr := by
  have hs : stk = [] := by
    match stk, hN with
    | [], _ => rfl
    | a :: l, hN =>
      obtain ⟨p, hp, _⟩ := hN.inv.i9 a List.mem_cons_self
      exact absurd hp (by simp)
  subst hs
  exact ⟨ord, low, on, sv, nxt, c, grp, pe, vl, hN, hv⟩
theorem walk_one (w : World) (lo x : Nat) (pe : Nat → Nat) (hx : pe x = 0) (hlo : lo ≤ w.heap.size) : WalkIs (w.alloc (.cells #[.int .i64 (x : Nat), .int .i64 0] 35)) lo (.slice (some ⟨w.heap.size, 0, none⟩) 1 1) [x] pe := by
  refine ⟨w.heap.size, 1, rfl, hlo, by unfold maxLen; omega, Arr_alloc w #[.int .i64 (x : Nat), .int .i64 0] 35 _ (fun i hi => ?_)⟩
  have hi' : i < 2 := hi
  have : i = 0 ∨ i = 1 := by omega
  rcases this with rfl | rfl
  · rfl
  · simp [hx]
/-- A root is met: the walk begins. -/
theorem inner_start {w0 wr w1 : World} {B n root : Nat} {deg : Nat → Nat} {tg : Nat → Nat → Nat} {gv : Value} {ord low : Nat → Int} {on : Nat → Bool} {sv sv' : Value} {nxt : Nat} {c : Nat → Int} {grp : List (List Nat)} {pe : Nat → Nat} {vl : List Nat}
    (hN : Now w0 B n deg tg wr gv ord low on [] [] sv nxt c grp pe vl) (hv : ∀ v, v < root → 0 ≤ ord v) (hr : root < n) (hu : ord root < 0)
    (hM : Mem w0 B n w1 (upd ord root nxt) (upd low root nxt) (upd on root true) [root] sv' (nxt + 1)) (ho : sv'.ownBlock = sv.ownBlock ∨ ∃ k, sv'.ownBlock = some k ∧ wr.heap.size < k) (hs : Side B sv wr w1) :
    ∃ G, Inner w0 B n deg tg root G gv (.slice (some ⟨w1.heap.size, 0, none⟩) 1 1) (w1.alloc (.cells #[.int .i64 (root : Nat), .int .i64 0] 35)) := by
  have hN1 := hN.visit hr hu (fun p hp => absurd hp (by simp)) hM ho hs
  refine ⟨_, _, _, _, _, [root], sv', _, c, grp, pe, _, hN1.world (hM.alloc _) (fun k t cap m f _ h2 _ _ _ => blk_alloc_lt _ _ _ h2), walk_one w1 (B + 8) root pe (hN.inv.unv root hr hu).2 (by have := hM.size; omega), fun v hv' => ?_, rfl⟩
  by_cases e : v = root
  · rw [e, upd_same]; omega
  · rw [upd_other _ _ e]; exact hv v (by omega)
end Go.Proofs.Qxb6604011a.Scc
