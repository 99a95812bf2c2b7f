import Derived.WalkKit
import Derived.PlainAid
namespace Go.Proofs.Qxb6602973a.Dec
open Go.PlainAid

/-! The plain side of isPlainDecimal: bytes by their index, no Go text. -/
def dig (c : Int) : Prop := 48 ≤ c ∧ c ≤ 57
def maxInt : Int := 9223372036854775807
/-- Digits alone, one to thirteen. -/
def P1 (f : Nat → Int) (n : Nat) : Prop := 1 ≤ n ∧ n ≤ 13 ∧ ∀ i, i < n → dig (f i)
/-- A point at p, one to thirteen digits before it, one to mp behind it; none at all where mp is the greatest int. -/
def P2 (f : Nat → Int) (n : Nat) (mp : Int) (p : Nat) : Prop :=
  1 ≤ p ∧ p ≤ 13 ∧ f p = 46 ∧ p + 1 < n ∧ (n : Int) - p - 1 ≤ mp ∧ mp ≠ maxInt ∧ ∀ i, i < n → i ≠ p → dig (f i)
def Ans (f : Nat → Int) (n : Nat) (mp : Int) (ok : Bool) : Prop :=
  (ok = true ∧ (P1 f n ∨ ∃ p, P2 f n mp p)) ∨ (ok = false ∧ ¬ P1 f n ∧ ∀ p, ¬ P2 f n mp p)

theorem Ans_unique {f : Nat → Int} {n : Nat} {mp : Int} {a b : Bool} (ha : Ans f n mp a) (hb : Ans f n mp b) : a = b := by
  rcases ha with ⟨rfl, h⟩ | ⟨rfl, h, h'⟩ <;> rcases hb with ⟨rfl, g⟩ | ⟨rfl, g, g'⟩
  · rfl
  · rcases h with h | ⟨p, h⟩
    · exact absurd h g
    · exact absurd h (g' p)
  · rcases g with g | ⟨p, g⟩
    · exact absurd g h
    · exact absurd g (h' p)
  · rfl
theorem Ans_no {f : Nat → Int} {n : Nat} {mp : Int} (h1 : ¬ P1 f n) (h2 : ∀ p, ¬ P2 f n mp p) : Ans f n mp false := Or.inr ⟨rfl, h1, h2⟩

/-- k digits stand at the head, and no more. -/
def Head (f : Nat → Int) (n k : Nat) : Prop := k ≤ n ∧ (∀ i, i < k → dig (f i)) ∧ (k = n ∨ (k < n ∧ ¬ dig (f k)))

theorem head_zero {f : Nat → Int} {n : Nat} {mp : Int} (h : Head f n 0) : Ans f n mp false := by
  obtain ⟨_, _, h⟩ := h
  refine Ans_no (fun g => ?_) (fun p g => ?_)
  · rcases h with h | ⟨h, h'⟩
    · have := g.1; omega
    · exact h' (g.2.2 0 h)
  · rcases h with h | ⟨h, h'⟩
    · have := g.2.2.2.1; omega
    · exact h' (g.2.2.2.2.2.2 0 h (by have := g.1; omega))
theorem head_long {f : Nat → Int} {n k : Nat} {mp : Int} (h : Head f n k) (hk : 13 < k) : Ans f n mp false := by
  obtain ⟨h0, h1, h⟩ := h
  refine Ans_no (fun g => by have := g.2.1; omega) (fun p g => ?_)
  have a := h1 p (by have := g.2.1; omega)
  have b := g.2.2.1
  unfold dig at a; omega
theorem head_all {f : Nat → Int} {n : Nat} {mp : Int} (h : Head f n n) (h0 : ¬ n = 0) (hk : n ≤ 13) : Ans f n mp true :=
  Or.inl ⟨rfl, Or.inl ⟨by omega, hk, h.2.1⟩⟩
theorem head_p {f : Nat → Int} {n k p : Nat} {mp : Int} (h : Head f n k) (hlt : k < n) (g : P2 f n mp p) : p = k := by
  obtain ⟨h0, h1, h⟩ := h
  rcases h with h | ⟨_, h⟩
  · omega
  · apply Classical.byContradiction
    intro hne
    exact h (g.2.2.2.2.2.2 k hlt (fun e => hne e.symm))
theorem head_no {f : Nat → Int} {n k : Nat} {mp : Int} (h : Head f n k) (hlt : k < n)
    (hb : f k ≠ 46 ∨ n - k < 2 ∨ mp < (n : Int) - k - 1 ∨ mp = maxInt ∨ ∃ i, 1 ≤ i ∧ i < n - k ∧ ¬ dig (f (k + i))) : Ans f n mp false := by
  refine Ans_no (fun g => ?_) (fun p g => ?_)
  · rcases h.2.2 with h' | ⟨_, h'⟩
    · omega
    · exact h' (g.2.2 k hlt)
  · have e := head_p h hlt g
    subst e
    obtain ⟨a, b, c, d, e, m, q⟩ := g
    rcases hb with hb | hb | hb | hb | ⟨i, h1, h2, h3⟩
    · exact hb c
    · omega
    · omega
    · exact m hb
    · exact h3 (q (p + i) (by omega) (by omega))
theorem head_yes {f : Nat → Int} {n k : Nat} {mp : Int} (h : Head f n k) (hk0 : ¬ k = 0) (hk : k ≤ 13) (h46 : f k = 46) (h2 : ¬ n - k < 2) (hmp : (n : Int) - k - 1 ≤ mp) (hmx : mp ≠ maxInt)
    (hd : ∀ i, 1 ≤ i → i < n - k → dig (f (k + i))) : Ans f n mp true := by
  refine Or.inl ⟨rfl, Or.inr ⟨k, by omega, hk, h46, by omega, hmp, hmx, fun i hi hne => ?_⟩⟩
  by_cases hlt : i < k
  · exact h.2.1 i hlt
  · have := hd (i - k) (by omega) (by omega)
    rwa [show k + (i - k) = i by omega] at this

/-- What the model's first loop holds after k bytes that it has let by. -/
def MI (f : Nat → Int) (k : Nat) (dots dot : Int) : Prop :=
  0 ≤ dots ∧ dots ≤ k ∧ (∀ i, i < k → dig (f i) ∨ f i = 46) ∧
  ((dots = 0 ∧ dot = -1 ∧ ∀ i, i < k → f i ≠ 46) ∨
   (∃ p : Nat, dot = p ∧ p < k ∧ f p = 46 ∧ ((dots = 1 ∧ ∀ i, i < k → i ≠ p → f i ≠ 46) ∨ (2 ≤ dots ∧ ∃ j, j < k ∧ j ≠ p ∧ f j = 46))))

theorem MI_start (f : Nat → Int) : MI f 0 0 (-1) :=
  ⟨by omega, by omega, fun _ h => absurd h (by omega), Or.inl ⟨rfl, rfl, fun _ h => absurd h (by omega)⟩⟩

theorem MI_bounds {f : Nat → Int} {k : Nat} {dots dot : Int} (h : MI f k dots dot) : 0 ≤ dots ∧ dots ≤ k ∧ -1 ≤ dot ∧ dot < k := by
  obtain ⟨h1, h2, h3, ⟨rfl, rfl, h4⟩ | ⟨p, rfl, hp, h46, h5⟩⟩ := h <;> omega

theorem MI_dot1 {f : Nat → Int} {k : Nat} {dots dot : Int} (h : MI f k dots dot) (h46 : f k = 46) (hd : dot < 0) : MI f (k + 1) (dots + 1) k := by
  obtain ⟨h1, h2, h3, ⟨rfl, rfl, h4⟩ | ⟨p, rfl, hp, h46', h5⟩⟩ := h
  · refine ⟨by omega, by omega, ?_, Or.inr ⟨k, rfl, by omega, h46, Or.inl ⟨by omega, fun i hi hne => h4 i (by omega)⟩⟩⟩
    intro i hi
    by_cases e : i = k
    · subst e; exact Or.inr h46
    · exact h3 i (by omega)
  · omega

theorem MI_dot2 {f : Nat → Int} {k : Nat} {dots dot : Int} (h : MI f k dots dot) (h46 : f k = 46) (hd : 0 ≤ dot) : MI f (k + 1) (dots + 1) dot := by
  obtain ⟨h1, h2, h3, ⟨rfl, rfl, h4⟩ | ⟨p, rfl, hp, h46', h5⟩⟩ := h
  · omega
  · refine ⟨by omega, by omega, ?_, Or.inr ⟨p, rfl, by omega, h46', Or.inr ⟨?_, k, by omega, by omega, h46⟩⟩⟩
    · intro i hi
      by_cases e : i = k
      · subst e; exact Or.inr h46
      · exact h3 i (by omega)
    · rcases h5 with ⟨rfl, _⟩ | ⟨h, _⟩ <;> omega

theorem MI_dig {f : Nat → Int} {k : Nat} {dots dot : Int} (h : MI f k dots dot) (h46 : ¬ f k = 46) (hd : dig (f k)) : MI f (k + 1) dots dot := by
  obtain ⟨h1, h2, h3, h6⟩ := h
  refine ⟨h1, by omega, ?_, ?_⟩
  · intro i hi
    by_cases e : i = k
    · subst e; exact Or.inl hd
    · exact h3 i (by omega)
  · have hx : ∀ i, i < k + 1 → i = k ∨ i < k := fun i hi => by omega
    rcases h6 with ⟨a, b, h4⟩ | ⟨p, e, hp, h46', h5⟩
    · exact Or.inl ⟨a, b, fun i hi => by rcases hx i hi with rfl | h; exact h46; exact h4 i h⟩
    · refine Or.inr ⟨p, e, by omega, h46', ?_⟩
      rcases h5 with ⟨a, h⟩ | ⟨a, j, hj, hne, hjj⟩
      · exact Or.inl ⟨a, fun i hi hne => by rcases hx i hi with rfl | h'; exact h46; exact h i h' hne⟩
      · exact Or.inr ⟨a, j, by omega, hne, hjj⟩

theorem MI_digs {f : Nat → Int} {n : Nat} {dots dot : Int} (h : MI f n dots dot) (hd : dot < 0) : ∀ i, i < n → dig (f i) := by
  obtain ⟨h1, h2, h3, ⟨rfl, rfl, h4⟩ | ⟨p, rfl, hp, h46, h5⟩⟩ := h
  · intro i hi
    rcases h3 i hi with h | h
    · exact h
    · exact absurd h (h4 i hi)
  · omega

theorem MI_digs2 {f : Nat → Int} {n p : Nat} {dots : Int} (h : MI f n dots p) (hm : dots ≤ 1) : f p = 46 ∧ p < n ∧ ∀ i, i < n → i ≠ p → dig (f i) := by
  obtain ⟨h1, h2, h3, ⟨rfl, h, h4⟩ | ⟨p', e, hp, h46, ⟨rfl, h5⟩ | ⟨_, j, hj, hne, h5⟩⟩⟩ := h
  · omega
  · have e' : p = p' := by omega
    subst e'
    refine ⟨h46, hp, fun i hi hne => ?_⟩
    rcases h3 i hi with h | h
    · exact h
    · exact absurd h (h5 i hi hne)
  · omega

theorem MI_bad {f : Nat → Int} {k n : Nat} {mp : Int} (hk : k < n) (h46 : ¬ f k = 46) (hd : ¬ dig (f k)) : Ans f n mp false := by
  refine Ans_no (fun g => hd (g.2.2 k hk)) (fun p g => ?_)
  by_cases e : k = p
  · subst e; exact h46 g.2.2.1
  · exact hd (g.2.2.2.2.2.2 k hk e)

theorem MI_many {f : Nat → Int} {n : Nat} {dots dot mp : Int} (h : MI f n dots dot) (hm : 1 < dots) : Ans f n mp false := by
  obtain ⟨h1, h2, h3, ⟨rfl, rfl, h4⟩ | ⟨p, rfl, hp, h46, ⟨rfl, h5⟩ | ⟨_, j, hj, hne, h5⟩⟩⟩ := h
  · omega
  · omega
  · refine Ans_no (fun g => ?_) (fun q g => ?_)
    · have := g.2.2 p hp; unfold dig at this; omega
    · by_cases e : q = p
      · have := g.2.2.2.2.2.2 j hj (by omega); unfold dig at this; omega
      · have := g.2.2.2.2.2.2 p hp (by omega); unfold dig at this; omega

theorem MI_zero {f : Nat → Int} {n : Nat} {dot mp : Int} (h : MI f n 0 dot) : Ans f n mp (decide (1 ≤ n ∧ n ≤ 13)) := by
  have hd : ∀ i, i < n → dig (f i) := by
    obtain ⟨h1, h2, h3, ⟨_, rfl, h4⟩ | ⟨p, rfl, hp, h46, ⟨h5, _⟩ | ⟨h5, _⟩⟩⟩ := h
    · intro i hi
      rcases h3 i hi with h | h
      · exact h
      · exact absurd h (h4 i hi)
    · omega
    · omega
  by_cases hn : 1 ≤ n ∧ n ≤ 13
  · rw [decide_eq_true hn]
    exact Or.inl ⟨rfl, Or.inl ⟨hn.1, hn.2, hd⟩⟩
  · rw [decide_eq_false hn]
    refine Ans_no (fun g => hn ⟨g.1, g.2.1⟩) (fun p g => ?_)
    have a := hd p (by have := g.2.2.2.1; omega)
    have b := g.2.2.1
    unfold dig at a; omega

theorem MI_one {f : Nat → Int} {n : Nat} {dots dot : Int} (h : MI f n dots dot) (h0 : ¬ dots = 0) (h1 : dots ≤ 1) : ∃ p : Nat, dot = p ∧ f p = 46 ∧ p < n ∧ ∀ i, i < n → i ≠ p → dig (f i) := by
  have h' := h
  obtain ⟨_, _, _, ⟨rfl, _⟩ | ⟨p, rfl, _⟩⟩ := h'
  · omega
  · exact ⟨p, rfl, MI_digs2 h h1⟩

theorem one_no {f : Nat → Int} {n p : Nat} {mp : Int} (h46 : f p = 46) (hp : p < n) (hd : ∀ i, i < n → i ≠ p → dig (f i))
    (hb : p < 1 ∨ 13 < p ∨ (n : Int) - p - 1 < 1 ∨ mp = maxInt ∨ mp < (n : Int) - p - 1) : Ans f n mp false := by
  refine Ans_no (fun g => ?_) (fun q g => ?_)
  · have := g.2.2 p hp; unfold dig at this; omega
  · by_cases e : q = p
    · subst e
      obtain ⟨a, b, c, d, e, m, _⟩ := g
      rcases hb with hb | hb | hb | hb | hb
      · omega
      · omega
      · omega
      · exact m hb
      · omega
    · have := g.2.2.2.2.2.2 p hp (by omega); unfold dig at this; omega
theorem one_yes {f : Nat → Int} {n p : Nat} {mp : Int} (h46 : f p = 46) (hd : ∀ i, i < n → i ≠ p → dig (f i))
    (h1 : ¬ p < 1) (h2 : p ≤ 13) (h3 : ¬ (n : Int) - p - 1 < 1) (h4 : mp ≠ maxInt) (h5 : (n : Int) - p - 1 ≤ mp) : Ans f n mp true :=
  Or.inl ⟨rfl, Or.inr ⟨p, by omega, h2, h46, by omega, h5, h4, hd⟩⟩

theorem bt_extract (a : ByteArray) (lo hi i : Nat) (h : i < hi - lo) (hhi : hi ≤ a.size) : bt (a.extract lo hi) i = bt a (lo + i) := by
  unfold bt
  rw [dif_pos (by simp; omega), dif_pos (by omega)]
  congr 2
  exact ByteArray.getElem_extract _
end Go.Proofs.Qxb6602973a.Dec
