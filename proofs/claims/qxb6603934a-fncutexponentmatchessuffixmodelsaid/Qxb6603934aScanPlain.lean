import Derived.WalkKit
import Derived.PlainAid
namespace Go.Proofs.Qxb6603934a.Scan
open Go.PlainAid

/-! The plain side of scanPlain: bytes by their index, no Go text. -/
def dig (c : Int) : Prop := 48 ≤ c ∧ c ≤ 57
/-- The number that the first k entries of f write in base ten. -/
def val (f : Nat → Int) : Nat → Int
  | 0 => 0
  | k + 1 => 10 * val f k + (f k - 48)
def skip (p i : Nat) : Nat := if i < p then i else i + 1

theorem val_congr {f g : Nat → Int} : ∀ k, (∀ i, i < k → f i = g i) → val f k = val g k
  | 0, _ => rfl
  | k + 1, h => by
    simp only [val]
    rw [val_congr k (fun i hi => h i (by omega)), h k (by omega)]

theorem pow_bound {f : Nat → Int} : ∀ k, (∀ i, i < k → dig (f i)) → 0 ≤ val f k ∧ val f k + 1 ≤ 10 ^ k
  | 0, _ => by simp [val]
  | k + 1, h => by
    have h1 := pow_bound k (fun i hi => h i (by omega))
    have h2 := h k (by omega)
    unfold dig at h2
    simp only [val]
    have e : (10 : Int) ^ (k + 1) = 10 * 10 ^ k := by rw [Int.pow_succ]; omega
    omega

theorem val_bound {f : Nat → Int} {k : Nat} (hk : k ≤ 18) (h : ∀ i, i < k → dig (f i)) : 0 ≤ val f k ∧ val f k ≤ 999999999999999999 := by
  have h1 := pow_bound k h
  have h2 : (10 : Int) ^ k ≤ 10 ^ 18 := by
    have e : (10 : Int) ^ 18 = 10 ^ k * 10 ^ (18 - k) := by rw [← Int.pow_add]; congr 1; omega
    have h3 : (1 : Int) ≤ 10 ^ (18 - k) := by
      have : (0 : Int) < 10 ^ (18 - k) := Int.pow_pos (by omega)
      omega
    have h4 : (0 : Int) < 10 ^ k := Int.pow_pos (by omega)
    rw [e]
    have := Int.mul_le_mul_of_nonneg_left h3 (Int.le_of_lt h4)
    omega
  have h5 : (10 : Int) ^ 18 = 1000000000000000000 := by decide
  omega

/-- All digits. -/
def G1 (f : Nat → Int) (n : Nat) : Prop := 0 < n ∧ ∀ i, i < n → dig (f i)
/-- Digits but for one point at p, neither first nor last. -/
def G2 (f : Nat → Int) (n p : Nat) : Prop := 0 < p ∧ p + 1 < n ∧ f p = 46 ∧ ∀ i, i < n → i ≠ p → dig (f i)

/-- What a scan of f, of n entries, answers: value, places, digits, and whether it is a number at all. -/
def Res (f : Nat → Int) (n : Nat) (v pl dg : Int) (ok : Bool) : Prop :=
  (G1 f n ∧ v = val f (min n 18) ∧ pl = 0 ∧ dg = n ∧ ok = true) ∨
  (∃ p, G2 f n p ∧ v = val (fun i => f (skip p i)) (min (n - 1) 18) ∧ pl = (n : Int) - p - 1 ∧ dg = (n : Int) - 1 ∧ ok = true) ∨
  (¬ G1 f n ∧ (∀ p, ¬ G2 f n p) ∧ v = 0 ∧ pl = 0 ∧ dg = 0 ∧ ok = false)

theorem G12 {f : Nat → Int} {n p : Nat} (h1 : G1 f n) (h2 : G2 f n p) : False := by
  have a := h1.2 p (by have := h2.2.1; omega)
  have b := h2.2.2.1
  unfold dig at a; omega
theorem G22 {f : Nat → Int} {n p q : Nat} (h1 : G2 f n p) (h2 : G2 f n q) : p = q := by
  apply Classical.byContradiction
  intro hne
  have a := h1.2.2.2 q (by have := h2.2.1; omega) (fun h => hne h.symm)
  have b := h2.2.2.1
  unfold dig at a; omega

theorem Res_unique {f : Nat → Int} {n : Nat} {v pl dg v' pl' dg' : Int} {ok ok' : Bool} (h : Res f n v pl dg ok) (h' : Res f n v' pl' dg' ok') :
    v = v' ∧ pl = pl' ∧ dg = dg' ∧ ok = ok' := by
  rcases h with ⟨g, a, b, c, d⟩ | ⟨p, g, a, b, c, d⟩ | ⟨g, gg, a, b, c, d⟩ <;>
    rcases h' with ⟨g', a', b', c', d'⟩ | ⟨p', g', a', b', c', d'⟩ | ⟨g', gg', a', b', c', d'⟩
  · exact ⟨by rw [a, a'], by rw [b, b'], by rw [c, c'], by rw [d, d']⟩
  · exact absurd (G12 g g') id
  · exact absurd g g'
  · exact absurd (G12 g' g) id
  · have e := G22 g g'; subst e
    exact ⟨by rw [a, a'], by rw [b, b'], by rw [c, c'], by rw [d, d']⟩
  · exact absurd g (gg' p)
  · exact absurd g' g
  · exact absurd g' (gg p')
  · exact ⟨by rw [a, a'], by rw [b, b'], by rw [c, c'], by rw [d, d']⟩

/-- What scanPlain's loop holds after k bytes that it has let by. -/
def SI (f : Nat → Int) (k : Nat) (sm dg pt : Int) : Prop :=
  (pt = -1 ∧ (∀ i, i < k → dig (f i)) ∧ dg = k ∧ sm = val f (min k 18)) ∨
  (∃ p : Nat, pt = p ∧ 0 < p ∧ p < k ∧ f p = 46 ∧ (∀ i, i < k → i ≠ p → dig (f i)) ∧ dg = (k : Int) - 1 ∧ sm = val (fun i => f (skip p i)) (min (k - 1) 18))

theorem SI_start (f : Nat → Int) : SI f 0 0 0 (-1) := Or.inl ⟨rfl, fun _ h => absurd h (by omega), rfl, rfl⟩

theorem dig_skip {f : Nat → Int} {k p : Nat} (h : ∀ i, i < k → i ≠ p → dig (f i)) : ∀ i, i < k - 1 → dig (f (skip p i)) := by
  intro i hi
  unfold skip
  split
  · exact h i (by omega) (by omega)
  · exact h (i + 1) (by omega) (by omega)

theorem SI_bounds {f : Nat → Int} {k : Nat} {sm dg pt : Int} (h : SI f k sm dg pt) :
    0 ≤ dg ∧ dg ≤ k ∧ -1 ≤ pt ∧ pt < k ∧ 0 ≤ sm ∧ sm ≤ 999999999999999999 := by
  rcases h with ⟨rfl, hd, rfl, rfl⟩ | ⟨p, rfl, h0, hp, h46, hd, rfl, rfl⟩
  · have := val_bound (f := f) (k := min k 18) (by omega) (fun i hi => hd i (by omega))
    omega
  · have := val_bound (f := fun i => f (skip p i)) (k := min (k - 1) 18) (by omega) (fun i hi => dig_skip hd i (by omega))
    omega

theorem val_bound17 {f : Nat → Int} {k : Nat} (hk : k ≤ 17) (h : ∀ i, i < k → dig (f i)) : val f k ≤ 99999999999999999 := by
  have h1 := pow_bound k h
  have h2 : (10 : Int) ^ k ≤ 10 ^ 17 := by
    have e : (10 : Int) ^ 17 = 10 ^ k * 10 ^ (17 - k) := by rw [← Int.pow_add]; congr 1; omega
    have h3 : (1 : Int) ≤ 10 ^ (17 - k) := by
      have : (0 : Int) < 10 ^ (17 - k) := Int.pow_pos (by omega)
      omega
    have h4 : (0 : Int) < 10 ^ k := Int.pow_pos (by omega)
    rw [e]
    have := Int.mul_le_mul_of_nonneg_left h3 (Int.le_of_lt h4)
    omega
  have h5 : (10 : Int) ^ 17 = 100000000000000000 := by decide
  omega

theorem SI_room {f : Nat → Int} {k : Nat} {sm dg pt : Int} (h : SI f k sm dg pt) (hdg : dg + 1 ≤ 18) : sm ≤ 99999999999999999 := by
  rcases h with ⟨rfl, hd, rfl, rfl⟩ | ⟨p, rfl, h0, hp, h46, hd, rfl, rfl⟩
  · exact val_bound17 (f := f) (k := min k 18) (by omega) (fun i hi => hd i (by omega))
  · exact val_bound17 (f := fun i => f (skip p i)) (k := min (k - 1) 18) (by omega) (fun i hi => dig_skip hd i (by omega))

theorem SI_point {f : Nat → Int} {k : Nat} {sm dg pt : Int} (h : SI f k sm dg pt) (h46 : f k = 46) (hpt : pt < 0) (hk : 0 < k) :
    SI f (k + 1) sm dg k := by
  rcases h with ⟨rfl, hd, rfl, rfl⟩ | ⟨p, rfl, h0, hp, h46, hd, rfl, rfl⟩
  · refine Or.inr ⟨k, rfl, hk, by omega, h46, fun i hi hne => hd i (by omega), by omega, ?_⟩
    rw [show k + 1 - 1 = k from by omega]
    apply val_congr
    intro i hi
    simp only [skip, if_pos (show i < k by omega)]
  · omega

theorem SI_digit {f : Nat → Int} {k : Nat} {sm dg pt : Int} (h : SI f k sm dg pt) (h1 : 48 ≤ f k) (h2 : f k ≤ 57) (hdg : dg + 1 ≤ 18) :
    SI f (k + 1) (10 * sm + (f k - 48)) (dg + 1) pt := by
  rcases h with ⟨rfl, hd, rfl, rfl⟩ | ⟨p, rfl, h0, hp, h46, hd, rfl, rfl⟩
  · refine Or.inl ⟨rfl, ?_, by omega, ?_⟩
    · intro i hi
      by_cases e : i = k
      · subst e; exact ⟨h1, h2⟩
      · exact hd i (by omega)
    · rw [show min k 18 = k from by omega, show min (k + 1) 18 = k + 1 from by omega]; rfl
  · refine Or.inr ⟨p, rfl, h0, by omega, h46, ?_, by omega, ?_⟩
    · intro i hi hne
      by_cases e : i = k
      · subst e; exact ⟨h1, h2⟩
      · exact hd i (by omega) hne
    · rw [show min (k - 1) 18 = k - 1 from by omega, show min (k + 1 - 1) 18 = (k - 1) + 1 from by omega]
      simp only [val, skip, if_neg (show ¬ k - 1 < p by omega), show k - 1 + 1 = k by omega]

theorem SI_digit_more {f : Nat → Int} {k : Nat} {sm dg pt : Int} (h : SI f k sm dg pt) (h1 : 48 ≤ f k) (h2 : f k ≤ 57) (hdg : ¬ dg + 1 ≤ 18) :
    SI f (k + 1) sm (dg + 1) pt := by
  rcases h with ⟨rfl, hd, rfl, rfl⟩ | ⟨p, rfl, h0, hp, h46, hd, rfl, rfl⟩
  · refine Or.inl ⟨rfl, ?_, by omega, ?_⟩
    · intro i hi
      by_cases e : i = k
      · subst e; exact ⟨h1, h2⟩
      · exact hd i (by omega)
    · rw [show min k 18 = 18 from by omega, show min (k + 1) 18 = 18 from by omega]
  · refine Or.inr ⟨p, rfl, h0, by omega, h46, ?_, by omega, ?_⟩
    · intro i hi hne
      by_cases e : i = k
      · subst e; exact ⟨h1, h2⟩
      · exact hd i (by omega) hne
    · rw [show min (k - 1) 18 = 18 from by omega, show min (k + 1 - 1) 18 = 18 from by omega]

theorem Res_no {f : Nat → Int} {n : Nat} (h1 : ¬ G1 f n) (h2 : ∀ p, ¬ G2 f n p) : Res f n 0 0 0 false := Or.inr (Or.inr ⟨h1, h2, rfl, rfl, rfl, rfl⟩)

theorem SI_bad {f : Nat → Int} {k n : Nat} {sm dg pt : Int} (h : SI f k sm dg pt) (hk : k < n) (hp : ¬ (f k = 46 ∧ pt < 0 ∧ 0 < k)) (hd : ¬ dig (f k)) :
    Res f n 0 0 0 false := by
  refine Res_no (fun g => hd (g.2 k hk)) (fun p g => ?_)
  have hkp : k = p := Classical.byContradiction fun hne => hd (g.2.2.2 k hk hne)
  subst hkp
  rcases h with ⟨rfl, hd', rfl, rfl⟩ | ⟨q, rfl, h0, hq, h46, hd', rfl, rfl⟩
  · exact hp ⟨g.2.2.1, by omega, g.1⟩
  · have := g.2.2.2 q (by omega) (by omega)
    unfold dig at this; omega

theorem SI_no {f : Nat → Int} {n : Nat} {sm dg pt : Int} (h : SI f n sm dg pt) (he : dg = 0 ∨ pt = (n : Int) - 1) : Res f n 0 0 0 false := by
  rcases h with ⟨rfl, hd, rfl, rfl⟩ | ⟨p, rfl, h0, hp, h46, hd, rfl, rfl⟩
  · exact Res_no (fun g => by have := g.1; omega) (fun p g => by have := g.2.1; omega)
  · refine Res_no (fun g => ?_) (fun q g => ?_)
    · have := g.2 p hp; unfold dig at this; omega
    · have e : q = p := Classical.byContradiction fun hne => by
        have := g.2.2.2 p hp (fun h => hne h.symm); unfold dig at this; omega
      have := g.2.1; have := g.1; omega

theorem SI_yes1 {f : Nat → Int} {n : Nat} {sm dg pt : Int} (h : SI f n sm dg pt) (h0 : ¬ dg = 0) (hpt : pt < 0) : Res f n sm 0 dg true := by
  rcases h with ⟨rfl, hd, rfl, rfl⟩ | ⟨p, rfl, h0, hp, h46, hd, rfl, rfl⟩
  · exact Or.inl ⟨⟨by omega, hd⟩, rfl, rfl, rfl, rfl⟩
  · omega

theorem SI_yes2 {f : Nat → Int} {n : Nat} {sm dg pt : Int} (h : SI f n sm dg pt) (hl : ¬ pt = (n : Int) - 1) (hpt : 0 ≤ pt) : Res f n sm ((n : Int) - pt - 1) dg true := by
  rcases h with ⟨rfl, hd, rfl, rfl⟩ | ⟨p, rfl, h0, hp, h46, hd, rfl, rfl⟩
  · omega
  · exact Or.inr (Or.inl ⟨p, ⟨h0, by omega, h46, hd⟩, rfl, rfl, rfl, rfl⟩)

/-- What the model's first loop holds after k bytes that it has let by. -/
def MI (f : Nat → Int) (k : Nat) (dots dot : Int) : Prop :=
  0 ≤ dots ∧ dots ≤ k ∧ (∀ i, i < k → dig (f i) ∨ f i = 46) ∧
  ((dots = 0 ∧ dot = -1 ∧ ∀ i, i < k → f i ≠ 46) ∨
   (∃ p : Nat, dot = p ∧ p < k ∧ f p = 46 ∧ ((dots = 1 ∧ ∀ i, i < k → i ≠ p → f i ≠ 46) ∨ (2 ≤ dots ∧ ∃ j, j < k ∧ j ≠ p ∧ f j = 46))))

theorem MI_start (f : Nat → Int) : MI f 0 0 (-1) :=
  ⟨by omega, by omega, fun _ h => absurd h (by omega), Or.inl ⟨rfl, rfl, fun _ h => absurd h (by omega)⟩⟩

theorem MI_bounds {f : Nat → Int} {k : Nat} {dots dot : Int} (h : MI f k dots dot) : 0 ≤ dots ∧ dots ≤ k ∧ -1 ≤ dot ∧ dot < k := by
  obtain ⟨h1, h2, h3, ⟨rfl, rfl, h4⟩ | ⟨p, rfl, hp, h46, h5⟩⟩ := h <;> omega

theorem MI_dot1 {f : Nat → Int} {k : Nat} {dots dot : Int} (h : MI f k dots dot) (h46 : f k = 46) (hd : dot < 0) : MI f (k + 1) (dots + 1) k := by
  obtain ⟨h1, h2, h3, ⟨rfl, rfl, h4⟩ | ⟨p, rfl, hp, h46', h5⟩⟩ := h
  · refine ⟨by omega, by omega, ?_, Or.inr ⟨k, rfl, by omega, h46, Or.inl ⟨by omega, fun i hi hne => h4 i (by omega)⟩⟩⟩
    intro i hi
    by_cases e : i = k
    · subst e; exact Or.inr h46
    · exact h3 i (by omega)
  · omega

theorem MI_dot2 {f : Nat → Int} {k : Nat} {dots dot : Int} (h : MI f k dots dot) (h46 : f k = 46) (hd : 0 ≤ dot) : MI f (k + 1) (dots + 1) dot := by
  obtain ⟨h1, h2, h3, ⟨rfl, rfl, h4⟩ | ⟨p, rfl, hp, h46', h5⟩⟩ := h
  · omega
  · refine ⟨by omega, by omega, ?_, Or.inr ⟨p, rfl, by omega, h46', Or.inr ⟨?_, k, by omega, by omega, h46⟩⟩⟩
    · intro i hi
      by_cases e : i = k
      · subst e; exact Or.inr h46
      · exact h3 i (by omega)
    · rcases h5 with ⟨rfl, _⟩ | ⟨h, _⟩ <;> omega

theorem MI_dig {f : Nat → Int} {k : Nat} {dots dot : Int} (h : MI f k dots dot) (h46 : ¬ f k = 46) (hd : dig (f k)) : MI f (k + 1) dots dot := by
  obtain ⟨h1, h2, h3, h6⟩ := h
  refine ⟨h1, by omega, ?_, ?_⟩
  · intro i hi
    by_cases e : i = k
    · subst e; exact Or.inl hd
    · exact h3 i (by omega)
  · have hx : ∀ i, i < k + 1 → i = k ∨ i < k := fun i hi => by omega
    rcases h6 with ⟨a, b, h4⟩ | ⟨p, e, hp, h46', h5⟩
    · exact Or.inl ⟨a, b, fun i hi => by rcases hx i hi with rfl | h; exact h46; exact h4 i h⟩
    · refine Or.inr ⟨p, e, by omega, h46', ?_⟩
      rcases h5 with ⟨a, h⟩ | ⟨a, j, hj, hne, hjj⟩
      · exact Or.inl ⟨a, fun i hi hne => by rcases hx i hi with rfl | h'; exact h46; exact h i h' hne⟩
      · exact Or.inr ⟨a, j, by omega, hne, hjj⟩

theorem MI_bad {f : Nat → Int} {k n : Nat} (hk : k < n) (h46 : ¬ f k = 46) (hd : ¬ dig (f k)) : Res f n 0 0 0 false := by
  refine Res_no (fun g => hd (g.2 k hk)) (fun p g => ?_)
  by_cases e : k = p
  · subst e; exact h46 g.2.2.1
  · exact hd (g.2.2.2 k hk e)

theorem MI_many {f : Nat → Int} {n : Nat} {dots dot : Int} (h : MI f n dots dot) (hm : 1 < dots) : Res f n 0 0 0 false := by
  obtain ⟨h1, h2, h3, ⟨rfl, rfl, h4⟩ | ⟨p, rfl, hp, h46, ⟨rfl, h5⟩ | ⟨_, j, hj, hne, h5⟩⟩⟩ := h
  · omega
  · omega
  · refine Res_no (fun g => ?_) (fun q g => ?_)
    · have := g.2 p hp; unfold dig at this; omega
    · by_cases e : q = p
      · have := g.2.2.2 j hj (by omega); unfold dig at this; omega
      · have := g.2.2.2 p hp (by omega); unfold dig at this; omega

theorem MI_digs {f : Nat → Int} {n : Nat} {dots dot : Int} (h : MI f n dots dot) (hd : dot < 0) : ∀ i, i < n → dig (f i) := by
  obtain ⟨h1, h2, h3, ⟨rfl, rfl, h4⟩ | ⟨p, rfl, hp, h46, h5⟩⟩ := h
  · intro i hi
    rcases h3 i hi with h | h
    · exact h
    · exact absurd h (h4 i hi)
  · omega

theorem MI_digs2 {f : Nat → Int} {n p : Nat} {dots : Int} (h : MI f n dots p) (hm : dots ≤ 1) : f p = 46 ∧ p < n ∧ ∀ i, i < n → i ≠ p → dig (f i) := by
  obtain ⟨h1, h2, h3, ⟨rfl, h, h4⟩ | ⟨p', e, hp, h46, ⟨rfl, h5⟩ | ⟨_, j, hj, hne, h5⟩⟩⟩ := h
  · omega
  · have e' : p = p' := by omega
    subst e'
    refine ⟨h46, hp, fun i hi hne => ?_⟩
    rcases h3 i hi with h | h
    · exact h
    · exact absurd h (h5 i hi hne)
  · omega

theorem MI_empty {f : Nat → Int} {n : Nat} (h : n = 0) : Res f n 0 0 0 false :=
  Res_no (fun g => by have := g.1; omega) (fun p g => by have := g.2.1; omega)

theorem MI_edge {f : Nat → Int} {n p : Nat} {dots : Int} (h : MI f n dots p) (hm : dots ≤ 1) (he : p = 0 ∨ n - (p + 1) = 0) : Res f n 0 0 0 false := by
  obtain ⟨h46, hp, hd⟩ := MI_digs2 h hm
  refine Res_no (fun g => ?_) (fun q g => ?_)
  · have := g.2 p hp; unfold dig at this; omega
  · by_cases e : q = p
    · have := g.1; have := g.2.1; omega
    · have := g.2.2.2 p hp (by omega); unfold dig at this; omega

theorem MI_yes1 {f : Nat → Int} {n : Nat} {dots dot v : Int} (h : MI f n dots dot) (hd : dot < 0) (h0 : ¬ n = 0) (hv : v = val f (min n 18)) : Res f n v 0 n true :=
  Or.inl ⟨⟨by omega, MI_digs h hd⟩, hv, rfl, rfl, rfl⟩

theorem MI_yes2 {f : Nat → Int} {n p : Nat} {dots v : Int} (h : MI f n dots p) (hm : dots ≤ 1) (h0 : ¬ p = 0) (h1 : ¬ n - (p + 1) = 0)
    (hv : v = val (fun i => f (skip p i)) (min (n - 1) 18)) : Res f n v ((n : Int) - p - 1) ((n : Int) - 1) true := by
  obtain ⟨h46, hp, hd⟩ := MI_digs2 h hm
  exact Or.inr (Or.inl ⟨p, ⟨by omega, by omega, h46, hd⟩, hv, rfl, rfl, rfl⟩)

theorem bt_append (a b : ByteArray) (i : Nat) : bt (a ++ b) i = if i < a.size then bt a i else bt b (i - a.size) := by
  unfold bt
  by_cases h : i < a.size
  · rw [if_pos h, dif_pos (by simp; omega), dif_pos h]
    congr 2
    exact ByteArray.getElem_append_left h
  · rw [if_neg h]
    by_cases h2 : i - a.size < b.size
    · rw [dif_pos (by simp; omega), dif_pos h2]
      congr 2
      exact ByteArray.getElem_append_right (by omega)
    · rw [dif_neg (by simp; omega), dif_neg h2]

theorem bt_extract (a : ByteArray) (lo hi i : Nat) (h : i < hi - lo) (hhi : hi ≤ a.size) : bt (a.extract lo hi) i = bt a (lo + i) := by
  unfold bt
  rw [dif_pos (by simp; omega), dif_pos (by omega)]
  congr 2
  exact ByteArray.getElem_extract _
end Go.Proofs.Qxb6603934a.Scan
