import Derived.Test.Qxb6604011aVisit
namespace Go.Proofs.Qxb6604011a.Scc
open Go.RowKit Go.Deep

/-! The graph as it came in; the walk; the groups: how they lie in memory. -/
/-- A slice of slices of ints that reads as the edge lists 'tg i 0 .. tg i (deg i - 1)' of n nodes. -/
def GraphAt (w : World) (v : Value) (n : Nat) (deg : Nat → Nat) (tg : Nat → Nat → Nat) : Prop :=
  ∃ (ao : Option Addr) (cap : Nat), v = .slice ao n cap ∧ (ao = none → cap = 0 ∧ n = 0) ∧
    (0 < n → ∃ b off, ao = some ⟨b, off, none⟩ ∧ ∀ i, i < n → ∃ ro rc, w.cell? ⟨b, off + i, none⟩ = some (.slice ro (deg i) rc) ∧ (ro = none → rc = 0 ∧ deg i = 0) ∧
      (0 < deg i → ∃ rb rf, ro = some ⟨rb, rf, none⟩ ∧ ∀ k, k < deg i → w.cell? ⟨rb, rf + k, none⟩ = some (.int .i64 (tg i k : Nat))))

/-- The walk: its nodes, the last one first, each with the count of its edges that have been followed. -/
def WalkIs (wr : World) (lo : Nat) (v : Value) (wn : List Nat) (pe : Nat → Nat) : Prop :=
  ∃ g cap, v = .slice (some ⟨g, 0, none⟩) wn.length cap ∧ lo ≤ g ∧ cap ≤ maxLen ∧
    Arr wr g 35 (cap * 2) (wn.length * 2) (fun i => if i % 2 = 0 then .int .i64 (wn.reverse.getD (i / 2) 0 : Nat) else .int .i64 (pe (wn.reverse.getD (i / 2) 0) : Nat))

/-- The groups that are closed: each its own row, none of them a row in 'av'. -/
def Grps (wr : World) (lo : Nat) (v : Value) (grp : List (List Nat)) (av : Nat → Prop) : Prop :=
  (v = .slice none 0 0 ∧ grp = []) ∨ ∃ (g cap : Nat) (r rc : Nat → Nat), v = .slice (some ⟨g, 0, none⟩) grp.length cap ∧ lo ≤ g ∧ cap ≤ maxLen ∧
    Arr wr g 24 cap grp.length (fun j => .slice (some ⟨r j, 0, none⟩) (grp.getD j []).length (rc j)) ∧
    ∀ j, j < grp.length → lo ≤ r j ∧ ¬ av (r j) ∧ Arr wr (r j) 3 (rc j) (grp.getD j []).length (fun i => .int .i64 ((grp.getD j []).getD i 0 : Nat))

theorem WalkIs.block {wr w' : World} {lo : Nat} {v : Value} {wn : List Nat} {pe : Nat → Nat} (h : WalkIs wr lo v wn pe) (hb : ∀ k, v.ownBlock = some k → w'.heap[k]? = wr.heap[k]?) : WalkIs w' lo v wn pe := by
  obtain ⟨g, cap, rfl, hl, hc, hA⟩ := h
  exact ⟨g, cap, rfl, hl, hc, hA.of_block (hb g rfl)⟩
theorem WalkIs.own {wr : World} {lo : Nat} {v : Value} {wn : List Nat} {pe : Nat → Nat} (h : WalkIs wr lo v wn pe) : ∃ g, v.ownBlock = some g ∧ lo ≤ g ∧ g < wr.heap.size ∧ ∀ b t cap n f, t ≠ 35 → Arr wr b t cap n f → b ≠ g := by
  obtain ⟨g, cap, rfl, hl, hc, hA⟩ := h
  exact ⟨g, rfl, hl, hA.lt, fun b t cap n f ht hB => arr_ne hB hA ht⟩

/-- The groups stay where no row of theirs turns; 'hb': every row of type 24 or 3 from lo on, those in 'av' aside, stands. The rows to keep clear of may be others, made since. -/
theorem Grps.block {wr w' : World} {lo : Nat} {v : Value} {grp : List (List Nat)} {av av' : Nat → Prop} (h : Grps wr lo v grp av)
    (hb : ∀ k t cap n f, lo ≤ k → k < wr.heap.size → ¬ av k → t = 3 ∨ t = 24 → Arr wr k t cap n f → w'.heap[k]? = wr.heap[k]?) (hav : ∀ k cap n f, av k → ¬ Arr wr k 24 cap n f)
    (ha : ∀ k, av' k → av k ∨ wr.heap.size ≤ k) : Grps w' lo v grp av' := by
  rcases h with h | ⟨g, cap, r, rc, rfl, hl, hc, hA, hR⟩
  · exact Or.inl h
  · refine Or.inr ⟨g, cap, r, rc, rfl, hl, hc, hA.of_block (hb g 24 _ _ _ hl hA.lt (fun e => hav g _ _ _ e hA) (Or.inr rfl) hA), fun j hj => ?_⟩
    obtain ⟨h1, h2, h3⟩ := hR j hj
    refine ⟨h1, fun hk => ?_, h3.of_block (hb (r j) 3 _ _ _ h1 h3.lt h2 (Or.inl rfl) h3)⟩
    rcases ha _ hk with h | h
    · exact h2 h
    · have := h3.lt
      omega
theorem Grps.less {wr : World} {lo : Nat} {v : Value} {grp : List (List Nat)} {av av' : Nat → Prop} (h : Grps wr lo v grp av) (ha : ∀ k, av' k → av k) : Grps wr lo v grp av' := by
  rcases h with h | ⟨g, cap, r, rc, rfl, hl, hc, hA, hR⟩
  · exact Or.inl h
  · exact Or.inr ⟨g, cap, r, rc, rfl, hl, hc, hA, fun j hj => ⟨(hR j hj).1, fun hk => (hR j hj).2.1 (ha _ hk), (hR j hj).2.2⟩⟩
theorem Grps.lt {wr : World} {lo : Nat} {v : Value} {grp : List (List Nat)} {av : Nat → Prop} (h : Grps wr lo v grp av) : ∀ k, v.ownBlock = some k → lo ≤ k ∧ k < wr.heap.size ∧ ∃ cap n f, Arr wr k 24 cap n f := by
  rcases h with ⟨rfl, rfl⟩ | ⟨g, cap, r, rc, rfl, hl, hc, hA, hR⟩
  · intro k hk; simp [Value.ownBlock] at hk
  · intro k hk; simp [Value.ownBlock] at hk; subst hk; exact ⟨hl, hA.lt, _, _, _, hA⟩

/-- A group is laid behind the others: its own row is x's. -/
theorem Grps.push {wr : World} {lo : Nat} {v : Value} {grp : List (List Nat)} {av : Nat → Prop} (h : Grps wr lo v grp av) {o : Obj} {xs : List Nat} {xr xc : Nat} {v' : Value} {w1 : World} (hlo : lo ≤ wr.heap.size)
    (hx : Arr wr xr 3 xc xs.length (fun i => .int .i64 (xs.getD i 0 : Nat))) (hxl : lo ≤ xr) (hxa : ¬ av xr)
    (f : Nat → Value) (hf : ∀ g cap n f', v.ownBlock = some g → Arr wr g 24 cap n f' → n = grp.length → ∀ i, i < grp.length → f i = f' i)
    (ha : Appended (wr.alloc o) v.ownBlock 24 1 grp.length 1 f [.slice (some ⟨xr, 0, none⟩) xs.length xc] v' w1) :
    Grps w1 lo v' (grp ++ [xs]) av ∧ ∃ g cap, v' = .slice (some ⟨g, 0, none⟩) (grp.length + 1) cap := by
  obtain ⟨g', cap', rfl, hA, hc, hm, hr, hg⟩ := ha
  simp only [Nat.mul_one] at hA
  have keep : ∀ b t cap n f', Arr wr b t cap n f' → (∀ k, v.ownBlock = some k → b ≠ k) → Arr w1 b t cap n f' := fun b t cap n f' hB hne => (hB.alloc o).grown hg (fun e => hne b e.symm rfl)
  have hlg : lo ≤ g' := by
    rcases hr with e | e
    · exact (h.lt g' e.symm).1
    · rw [nblk_alloc] at e; omega
  have hg24 : ∀ k, v.ownBlock = some k → ∃ cap n f, Arr wr k 24 cap n f := fun k hk => (h.lt k hk).2.2
  have hx' : Arr w1 xr 3 xc xs.length (fun i => .int .i64 (xs.getD i 0 : Nat)) := keep _ _ _ _ _ hx (fun k hk => by
    obtain ⟨_, _, _, hB⟩ := hg24 k hk
    exact arr_ne hx hB (by decide))
  refine ⟨Or.inr ?_, g', cap', rfl⟩
  rcases h with ⟨rfl, rfl⟩ | ⟨g, cap, r, rc, rfl, hl, hcm, hA0, hR⟩
  · refine ⟨g', cap', fun _ => xr, fun _ => xc, by simp, hlg, hm, hA.congr (fun i hi => ?_), fun j hj => ?_⟩
    · have hi' : i < 0 + 1 := hi
      have : i = 0 := by omega
      subst this; simp
    · have hj' : j < 0 + 1 := hj
      have : j = 0 := by omega
      subst this
      exact ⟨hxl, hxa, by simpa using hx'⟩
  · refine ⟨g', cap', fun j => if j < grp.length then r j else xr, fun j => if j < grp.length then rc j else xc, by simp, hlg, hm, ?_, fun j hj => ?_⟩
    · rw [List.length_append]
      refine hA.congr (fun i hi => ?_)
      by_cases e : i < grp.length
      · rw [if_pos e, hf g cap grp.length _ rfl hA0 rfl i e]
        simp [e, List.getElem?_append_left e]
      · have e2 : i = grp.length := by have hi' : i < grp.length + 1 := hi
                                       omega
        subst e2
        simp
    · by_cases e : j < grp.length
      · obtain ⟨h1, h2, h3⟩ := hR j e
        have e3 : (grp ++ [xs]).getD j [] = grp.getD j [] := by simp [List.getElem?_append_left e]
        simp only [if_pos e, e3]
        exact ⟨h1, h2, keep _ _ _ _ _ h3 (fun k hk => by
          simp [Value.ownBlock] at hk
          subst hk
          exact arr_ne h3 hA0 (by decide))⟩
      · have e2 : j = grp.length := by simp at hj; omega
        subst e2
        have e3 : (grp ++ [xs]).getD grp.length [] = xs := by simp
        simp only [if_neg e, e3]
        exact ⟨hxl, hxa, hx'⟩

/-! Counting. -/
theorem nodup_len : ∀ (n : Nat) (l : List Nat), l.Nodup → (∀ x, x ∈ l → x < n) → l.length ≤ n
  | 0, l, _, h => by
    match l, h with
    | [], _ => simp
    | a :: l, h => exact absurd (h a List.mem_cons_self) (by omega)
  | n + 1, l, hn, h => by
    by_cases hm : n ∈ l
    · have h1 := nodup_len n (l.erase n) (hn.erase n) (fun x hx => by
        have := h x (List.mem_of_mem_erase hx)
        have hne : x ≠ n := fun e => by rw [e] at hx; exact absurd hx (by rw [hn.mem_erase_iff]; simp)
        omega)
      rw [List.length_erase_of_mem hm] at h1
      have : 0 < l.length := List.length_pos_of_mem hm
      omega
    · have := nodup_len n l hn (fun x hx => by
        have := h x hx
        have hne : x ≠ n := fun e => hm (e ▸ hx)
        omega)
      omega

/-- What is still to be walked: the nodes not met, the edges not followed. -/
def um (deg : Nat → Nat) (ord : Nat → Int) : Nat → Nat
  | 0 => 0
  | k + 1 => um deg ord k + (if ord k < 0 then deg k + 2 else 0)
def wm (deg : Nat → Nat) (pe : Nat → Nat) : List Nat → Nat
  | [] => 0
  | p :: l => (deg p - pe p + 1) + wm deg pe l

theorem um_other {deg : Nat → Nat} {ord : Nat → Int} {w : Nat} {x : Int} : ∀ k, k ≤ w → um deg (upd ord w x) k = um deg ord k
  | 0, _ => rfl
  | k + 1, h => by
    simp only [um]
    rw [um_other k (by omega), upd_other _ _ (by omega)]
theorem um_visit {deg : Nat → Nat} {ord : Nat → Int} {w : Nat} {x : Int} (hw : ord w < 0) (hx : 0 ≤ x) : ∀ n, w < n → um deg (upd ord w x) n + (deg w + 2) = um deg ord n
  | 0, h => absurd h (by omega)
  | n + 1, h => by
    simp only [um]
    by_cases e : w = n
    · subst e
      rw [um_other w (Nat.le_refl _), upd_same, if_neg (by omega), if_pos hw]
      omega
    · have := um_visit (deg := deg) hw hx n (by omega)
      rw [upd_other _ _ (fun e' => e e'.symm)]
      omega
theorem wm_other {deg pe : Nat → Nat} {v x : Nat} : ∀ l : List Nat, v ∉ l → wm deg (upd pe v x) l = wm deg pe l
  | [], _ => rfl
  | p :: l, h => by
    simp only [wm]
    rw [wm_other l (fun hm => h (List.mem_cons_of_mem _ hm)), upd_other pe x (show p ≠ v from fun e => h (by rw [← e]; exact List.mem_cons_self))]
theorem wm_advance {deg pe : Nat → Nat} {v : Nat} {l : List Nat} (hv : v ∉ l) (hlt : pe v < deg v) : wm deg (upd pe v (pe v + 1)) (v :: l) + 1 = wm deg pe (v :: l) := by
  simp only [wm]
  rw [wm_other l hv, upd_same]
  omega

theorem sorted_nodup {ord : Nat → Int} {l : List Nat} (h : l.Pairwise (fun a b => ord b < ord a)) : l.Nodup := by
  unfold List.Nodup
  exact List.Pairwise.imp_of_mem (fun {a b} _ _ hab e => by rw [e] at hab; omega) h
end Go.Proofs.Qxb6604011a.Scc
