import Derived.Test.Qxb6604011aRev
namespace Go.Proofs.Qxb6604011a.Scc
open Go.RowKit Go.Deep

/-! The edges turned round by counting: the plain law. -/
/-- How many of x's first k edges lead to i. -/
def rn (tg : Nat → Nat → Nat) (i x : Nat) : Nat → Nat
  | 0 => 0
  | k + 1 => rn tg i x k + (if tg x k = i then 1 else 0)
/-- How many edges of the nodes below v lead to i. -/
def tn (deg : Nat → Nat) (tg : Nat → Nat → Nat) (i : Nat) : Nat → Nat
  | 0 => 0
  | v + 1 => tn deg tg i v + rn tg i v (deg v)
def cn (deg : Nat → Nat) (tg : Nat → Nat → Nat) (v k i : Nat) : Nat := tn deg tg i v + rn tg i v k
section
variable {deg d : Nat → Nat} {tg : Nat → Nat → Nat} {n v k i : Nat}
theorem rn_le (tg : Nat → Nat → Nat) (i x : Nat) : ∀ k, rn tg i x k ≤ k
  | 0 => Nat.le_refl _
  | k + 1 => by
    have := rn_le tg i x k
    simp only [rn]
    split <;> omega
theorem rn_mono (tg : Nat → Nat → Nat) (i x k : Nat) : ∀ e, rn tg i x k ≤ rn tg i x (k + e)
  | 0 => Nat.le_refl _
  | e + 1 => by
    have := rn_mono tg i x k e
    show _ ≤ rn tg i x (k + e) + _
    omega
theorem tn_mono (deg : Nat → Nat) (tg : Nat → Nat → Nat) (i v : Nat) : ∀ e, tn deg tg i v ≤ tn deg tg i (v + e)
  | 0 => Nat.le_refl _
  | e + 1 => by
    have := tn_mono deg tg i v e
    show _ ≤ tn deg tg i (v + e) + _
    omega
theorem tn_le (deg : Nat → Nat) (tg : Nat → Nat → Nat) (i : Nat) : ∀ v, tn deg tg i v ≤ sm deg v
  | 0 => Nat.le_refl _
  | v + 1 => by
    have := tn_le deg tg i v
    have := rn_le tg i v (deg v)
    simp only [tn, sm]
    omega
theorem sm_le (d : Nat → Nat) {i j : Nat} (h : i ≤ j) : sm d i ≤ sm d j := by
  obtain ⟨e, rfl⟩ : ∃ e, j = i + e := ⟨j - i, by omega⟩
  clear h
  induction e with
  | zero => exact Nat.le_refl _
  | succ e ih =>
    show _ ≤ sm d (i + e) + d (i + e)
    omega
theorem sm_top {m : Nat} : ∀ n, (∀ i, i < n → d i ≤ m) → sm d n ≤ n * m
  | 0, _ => by simp [sm]
  | n + 1, h => by
    have h1 := sm_top n (fun i hi => h i (by omega))
    have h2 := h n (by omega)
    simp only [sm]
    rw [Nat.add_mul]
    omega
theorem cn_le (hv : v < n) (hk : k ≤ deg v) : cn deg tg v k i ≤ sm deg n := by
  have h1 := tn_le deg tg i v
  have h2 := rn_le tg i v k
  have h3 : sm deg (v + 1) ≤ sm deg n := sm_le deg hv
  simp only [sm] at h3
  unfold cn
  omega
theorem cn_step (i : Nat) : cn deg tg v (k + 1) i = cn deg tg v k i + (if tg v k = i then 1 else 0) := by
  unfold cn
  simp only [rn]
  omega
theorem cn_next (i : Nat) : cn deg tg v (deg v) i = cn deg tg (v + 1) 0 i := rfl
theorem cn_lt (hv : v < n) (hk : k < deg v) (h : tg v k = i) : cn deg tg v k i < tn deg tg i n := by
  have h1 := cn_step (deg := deg) (tg := tg) (v := v) (k := k) i
  rw [if_pos h] at h1
  have h2 : rn tg i v (k + 1) ≤ rn tg i v (deg v) := by
    have := rn_mono tg i v (k + 1) (deg v - (k + 1))
    rwa [show k + 1 + (deg v - (k + 1)) = deg v by omega] at this
  have h3 : tn deg tg i (v + 1) ≤ tn deg tg i n := by
    have := tn_mono deg tg i (v + 1) (n - (v + 1))
    rwa [show v + 1 + (n - (v + 1)) = n by omega] at this
  simp only [tn] at h3
  have h4 : cn deg tg v (k + 1) i = tn deg tg i v + rn tg i v (k + 1) := rfl
  omega
end

/-- 'start' while it counts, and while it sums up. -/
def sf (deg : Nat → Nat) (tg : Nat → Nat → Nat) (v k i : Nat) : Nat := if i = 0 then 0 else cn deg tg v k (i - 1)
def pf (d : Nat → Nat) (i j : Nat) : Nat := if j ≤ i then sm d j else d (j - 1)

def CountAt (w : World) (B n : Nat) (f : Nat → Nat) (wr : World) : Prop := Below B w wr ∧ wr.heap.size = B + 1 ∧ Arr wr B 3 (n + 1) (n + 1) (fun i => .int .i64 (f i : Nat))
section
variable {w wr : World} {B n v k : Nat} {f g : Nat → Nat} {deg d : Nat → Nat} {tg : Nat → Nat → Nat}
theorem CountAt.set (h : CountAt w B n f wr) (i x : Nat) {z : Int} (hz : z = (x : Nat)) : CountAt w B n (upd f i x) (wr.setCell ⟨B, i, none⟩ (.int .i64 z)) := by
  refine ⟨h.1.setCell (Nat.le_refl _) _, by rw [nblk_setCell]; exact h.2.1, (h.2.2.set i _).congr (fun j _ => ?_)⟩
  unfold upd
  split
  · rw [hz]
  · rfl
theorem CountAt.congr (h : CountAt w B n f wr) (he : ∀ i, i < n + 1 → f i = g i) : CountAt w B n g wr := ⟨h.1, h.2.1, h.2.2.congr (fun i hi => by rw [he i hi])⟩
theorem CountAt.drew (h : CountAt w B n f wr) : CountAt w B n f wr.drew := ⟨h.1.drew, h.2.1, h.2.2.drew⟩
theorem count_start (w : World) (n : Nat) (deg : Nat → Nat) (tg : Nat → Nat → Nat) : CountAt w w.heap.size n (sf deg tg 0 0) (w.alloc (.cells (madeCells #[.int .i64 0] (n + 1)) 3)) :=
  ⟨(Below.refl _ _).alloc (Nat.le_refl _) _, by rw [nblk_alloc], (Arr_made w (.int .i64 0) (n + 1) 3).congr (fun i _ => by simp [sf, cn, tn, rn])⟩
theorem CountAt.edge (h : CountAt w B n (sf deg tg v k) wr) {t y : Nat} (ht : tg v k = t) (hy : y = cn deg tg v k t) : CountAt w B n (sf deg tg v (k + 1)) (wr.setCell ⟨B, t + 1, none⟩ (.int .i64 ((y : Int) + 1))) := by
  refine (h.set (t + 1) (y + 1) (by omega)).congr (fun i _ => ?_)
  unfold upd sf
  by_cases e : i = t + 1
  · subst e
    rw [if_pos rfl, if_neg (by omega), show t + 1 - 1 = t by omega, cn_step, if_pos ht, hy]
  · rw [if_neg e]
    by_cases e0 : i = 0
    · rw [if_pos e0, if_pos e0]
    · rw [if_neg e0, if_neg e0, cn_step, if_neg (by omega)]
      omega
theorem CountAt.next (h : CountAt w B n (sf deg tg v (deg v)) wr) : CountAt w B n (sf deg tg (v + 1) 0) wr := h
theorem CountAt.sums (h : CountAt w B n (sf deg tg n 0) wr) : CountAt w B n (pf (fun i => tn deg tg i n) 0) wr := h.congr (fun i _ => by
  unfold sf pf
  by_cases e : i = 0
  · subst e; rfl
  · rw [if_neg e, if_neg (by omega)]; rfl)
theorem CountAt.sum (h : CountAt w B n (pf d k) wr) {a b : Nat} (ha : a = d k) (hb : b = sm d k) : CountAt w B n (pf d (k + 1)) (wr.setCell ⟨B, k + 1, none⟩ (.int .i64 ((a : Int) + (b : Int)))) := by
  refine (h.set (k + 1) (a + b) (by omega)).congr (fun i _ => ?_)
  unfold upd pf
  by_cases e : i = k + 1
  · subst e
    rw [if_pos rfl, if_pos (Nat.le_refl _), ha, hb]
    simp only [sm]
    omega
  · rw [if_neg e]
    by_cases e2 : i ≤ k
    · rw [if_pos e2, if_pos (by omega)]
    · rw [if_neg e2, if_neg (by omega)]
end

/-- What stands while the edges are laid: 'start' whole, 'next' so far, 'radj' so far. -/
def LaidAt (w : World) (B n M : Nat) (d nx ra : Nat → Nat) (wr : World) : Prop :=
  Below B w wr ∧ B + 3 ≤ wr.heap.size ∧ Arr wr B 3 (n + 1) (n + 1) (fun i => .int .i64 (sm d i : Nat)) ∧ Arr wr (B + 1) 3 M M (fun i => .int .i64 (ra i : Nat)) ∧ Arr wr (B + 2) 3 n n (fun i => .int .i64 (nx i : Nat))
section
variable {w wr : World} {B n M v k : Nat} {nx ra : Nat → Nat} {deg d : Nat → Nat} {tg : Nat → Nat → Nat}
theorem CountAt.laid (h : CountAt w B n (pf d n) wr) (M : Nat) : LaidAt w B n M d (fun i => if i < 0 then sm d i else 0) (fun _ => 0) ((wr.alloc (.cells (madeCells #[.int .i64 0] M) 3)).alloc (.cells (madeCells #[.int .i64 0] n) 3)) := by
  obtain ⟨h1, h2, h3⟩ := h
  have a1 := Arr_made wr (.int .i64 0) M 3
  have a2 := Arr_made (wr.alloc (.cells (madeCells #[.int .i64 0] M) 3)) (.int .i64 0) n 3
  simp only [nblk_alloc, h2] at a1 a2
  refine ⟨(h1.alloc (by omega) _).alloc (by rw [nblk_alloc]; omega) _, by rw [nblk_alloc, nblk_alloc]; omega, ((h3.alloc _).alloc _).congr (fun i hi => ?_), (a1.alloc _).congr (fun i _ => rfl), a2.congr (fun i _ => by simp)⟩
  unfold pf
  rw [if_pos (by omega)]
theorem LaidAt.setNext (h : LaidAt w B n M d nx ra wr) (i x : Nat) {z : Int} (hz : z = (x : Nat)) : LaidAt w B n M d (upd nx i x) ra (wr.setCell ⟨B + 2, i, none⟩ (.int .i64 z)) := by
  obtain ⟨h1, h2, h3, h4, h5⟩ := h
  refine ⟨h1.setCell (by show B ≤ B + 2; omega) _, by rw [nblk_setCell]; exact h2, h3.setOther (by show B ≠ B + 2; omega) _, h4.setOther (by show B + 1 ≠ B + 2; omega) _, (h5.set i _).congr (fun j _ => ?_)⟩
  unfold upd
  split
  · rw [hz]
  · rfl
theorem LaidAt.setRadj (h : LaidAt w B n M d nx ra wr) (i x : Nat) : LaidAt w B n M d nx (upd ra i x) (wr.setCell ⟨B + 1, i, none⟩ (.int .i64 (x : Nat))) := by
  obtain ⟨h1, h2, h3, h4, h5⟩ := h
  refine ⟨h1.setCell (by show B ≤ B + 1; omega) _, by rw [nblk_setCell]; exact h2, h3.setOther (by show B ≠ B + 1; omega) _, (h4.set i _).congr (fun j _ => ?_), h5.setOther (by show B + 2 ≠ B + 1; omega) _⟩
  unfold upd
  split <;> rfl
theorem LaidAt.congr (h : LaidAt w B n M d nx ra wr) {nx' : Nat → Nat} (he : ∀ i, i < n → nx i = nx' i) : LaidAt w B n M d nx' ra wr := by
  obtain ⟨h1, h2, h3, h4, h5⟩ := h
  exact ⟨h1, h2, h3, h4, h5.congr (fun i hi => by rw [he i hi])⟩
theorem LaidAt.copy (h : LaidAt w B n M d (fun i => if i < k then sm d i else 0) ra wr) {a : Nat} (ha : a = sm d k) : LaidAt w B n M d (fun i => if i < k + 1 then sm d i else 0) ra (wr.setCell ⟨B + 2, k, none⟩ (.int .i64 (a : Nat))) := by
  refine (h.setNext k a rfl).congr (fun i _ => ?_)
  by_cases e : i = k
  · subst e; rw [upd_same]; simp [ha]
  · rw [upd_other _ _ e]
    by_cases e2 : i < k
    · simp [e2, show i < k + 1 by omega]
    · simp [e2, show ¬ i < k + 1 by omega]
end

/-- Which edges have been laid: those of the nodes below v, and v's first k. -/
def Filled (n : Nat) (deg : Nat → Nat) (tg : Nat → Nat → Nat) (d : Nat → Nat) (v k : Nat) (ra : Nat → Nat) : Prop :=
  ∀ i x, i < n → ((∃ p, sm d i ≤ p ∧ p < sm d i + cn deg tg v k i ∧ ra p = x) ↔ ∃ k', k' < deg x ∧ tg x k' = i ∧ (x < v ∨ (x = v ∧ k' < k)))
section
variable {n v k : Nat} {ra : Nat → Nat} {deg d : Nat → Nat} {tg : Nat → Nat → Nat}
theorem filled_start (n : Nat) (deg : Nat → Nat) (tg : Nat → Nat → Nat) (d ra : Nat → Nat) : Filled n deg tg d 0 0 ra := fun i x _ => by
  constructor
  · rintro ⟨p, h1, h2, _⟩
    simp [cn, tn, rn] at h2
    omega
  · rintro ⟨k', _, _, h⟩
    omega
theorem Filled.next (h : Filled n deg tg d v (deg v) ra) : Filled n deg tg d (v + 1) 0 ra := fun i x hi => by
  refine (h i x hi).trans ?_
  constructor
  · rintro ⟨k', a, b, c⟩
    exact ⟨k', a, b, Or.inl (by omega)⟩
  · rintro ⟨k', a, b, c⟩
    refine ⟨k', a, b, ?_⟩
    rcases c with c | c
    · by_cases e : x = v
      · subst e; exact Or.inr ⟨rfl, a⟩
      · exact Or.inl (by omega)
    · omega
theorem Filled.edge (h : Filled n deg tg (fun i => tn deg tg i n) v k ra) (hv : v < n) (hk : k < deg v) {t p : Nat} (htn : t < n) (ht : tg v k = t) (hp : p = sm (fun i => tn deg tg i n) t + cn deg tg v k t) :
    Filled n deg tg (fun i => tn deg tg i n) v (k + 1) (upd ra p v) ∧ p < sm (fun i => tn deg tg i n) n := by
  have hlt := cn_lt hv hk ht
  have hpt : p < sm (fun i => tn deg tg i n) (t + 1) := by simp only [sm]; omega
  refine ⟨fun i x hi => ?_, Nat.lt_of_lt_of_le hpt (sm_le _ htn)⟩
  have hi' := h i x hi
  by_cases e : i = t
  · subst e
    rw [cn_step, if_pos ht]
    constructor
    · rintro ⟨q, h1, h2, h3⟩
      by_cases eq : q = p
      · rw [eq, upd_same] at h3
        subst h3
        exact ⟨k, hk, ht, Or.inr ⟨rfl, by omega⟩⟩
      · rw [upd_other _ _ eq] at h3
        obtain ⟨k', a, b, c⟩ := hi'.1 ⟨q, h1, by omega, h3⟩
        exact ⟨k', a, b, by omega⟩
    · rintro ⟨k', a, b, c⟩
      by_cases eq : x = v ∧ k' = k
      · exact ⟨p, by omega, by omega, by rw [upd_same, eq.1]⟩
      · obtain ⟨q, h1, h2, h3⟩ := hi'.2 ⟨k', a, b, by omega⟩
        exact ⟨q, h1, by omega, by rw [upd_other _ _ (by omega)]; exact h3⟩
  · rw [cn_step, if_neg (by omega), Nat.add_zero]
    have hout : ∀ q, sm (fun i => tn deg tg i n) i ≤ q → q < sm (fun i => tn deg tg i n) i + cn deg tg v k i → q ≠ p := fun q h1 h2 eq => by
      subst eq
      have h3 : cn deg tg v k i ≤ tn deg tg i n := by
        have a1 := rn_mono tg i v k (deg v - k)
        rw [show k + (deg v - k) = deg v by omega] at a1
        have a2 := tn_mono deg tg i (v + 1) (n - (v + 1))
        rw [show v + 1 + (n - (v + 1)) = n by omega] at a2
        simp only [tn] at a2
        unfold cn
        omega
      have h4 : q < sm (fun i => tn deg tg i n) (i + 1) := by simp only [sm]; omega
      by_cases lt : i < t
      · have := sm_le (fun i => tn deg tg i n) (show i + 1 ≤ t by omega)
        omega
      · have := sm_le (fun i => tn deg tg i n) (show t + 1 ≤ i by omega)
        omega
    constructor
    · rintro ⟨q, h1, h2, h3⟩
      rw [upd_other _ _ (hout q h1 h2)] at h3
      obtain ⟨k', a, b, c⟩ := hi'.1 ⟨q, h1, h2, h3⟩
      exact ⟨k', a, b, by omega⟩
    · rintro ⟨k', a, b, c⟩
      have : ¬ (x = v ∧ k' = k) := fun eq => e (by rw [← b, eq.1, eq.2]; exact ht)
      obtain ⟨q, h1, h2, h3⟩ := hi'.2 ⟨k', a, b, by omega⟩
      exact ⟨q, h1, h2, by rw [upd_other _ _ (hout q h1 h2)]; exact h3⟩
theorem Filled.all (h : Filled n deg tg (fun i => tn deg tg i n) n 0 ra) {i : Nat} (hi : i < n) (x : Nat) :
    Edge (fun i => tn deg tg i n) (fun i j => ra (sm (fun i => tn deg tg i n) i + j)) i x ↔ (x < n ∧ Edge deg tg x i) := by
  have h1 := h i x hi
  have e0 : cn deg tg n 0 i = tn deg tg i n := rfl
  rw [e0] at h1
  constructor
  · rintro ⟨j, hj, hx⟩
    obtain ⟨k', a, b, c⟩ := h1.1 ⟨_, by omega, by show _ < _ + tn deg tg i n; exact Nat.add_lt_add_left hj _, hx⟩
    exact ⟨by omega, k', a, b⟩
  · rintro ⟨hx, k', a, b⟩
    obtain ⟨p, h1, h2, h3⟩ := h1.2 ⟨k', a, b, Or.inl hx⟩
    exact ⟨p - sm (fun i => tn deg tg i n) i, by show _ < tn deg tg i n; omega, by show ra (_ + (p - _)) = x; rw [show sm (fun i => tn deg tg i n) i + (p - sm (fun i => tn deg tg i n) i) = p by omega]; exact h3⟩
end
end Go.Proofs.Qxb6604011a.Scc
