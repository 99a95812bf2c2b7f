import Derived.Test.Qxb6603934aScanPlain
namespace Go.Proofs.Qxb6603934a.Cut
open Go.PlainAid Go.Proofs.Qxb6603934a.Scan

/-! The plain side of cutExponent: which exponent, if any, ends the n entries of f. -/
def isE (c : Int) : Prop := c = 69 ∨ c = 101
/-- f ends, at n, in an exponent: its letter at e, m digits, under a minus or not. -/
def Shape (f : Nat → Int) (n e : Nat) (neg : Bool) (m : Nat) : Prop :=
  isE (f e) ∧ 1 ≤ m ∧ m ≤ 3 ∧ (∀ i, i < m → dig (f (n - m + i))) ∧
  ((e + 1 + m = n ∧ neg = false) ∨ (e + 2 + m = n ∧ ((f (e + 1) = 43 ∧ neg = false) ∨ (f (e + 1) = 45 ∧ neg = true))))

def sgn (neg : Bool) (v : Int) : Int := if neg then -v else v

/-- What cutting hands back: how many entries stay, and the exponent's value. -/
def CutR (f : Nat → Int) (n : Nat) (k : Nat) (v : Int) : Prop :=
  (∃ e neg m, Shape f n e neg m ∧ k = e ∧ v = sgn neg (val (fun i => f (n - m + i)) m)) ∨ ((∀ e neg m, ¬ Shape f n e neg m) ∧ k = n ∧ v = 0)

theorem shape_m {f : Nat → Int} {n e e' m m' : Nat} {neg neg' : Bool} (h : Shape f n e neg m) (h' : Shape f n e' neg' m') : ¬ m < m' := by
  intro hlt
  obtain ⟨a, b, c, d, g⟩ := h
  obtain ⟨a', b', c', d', g'⟩ := h'
  have hx := d' (m' - m - 1) (by omega)
  unfold dig at hx
  unfold isE at a
  rcases g with ⟨g, _⟩ | ⟨g, g2⟩
  · rw [show n - m' + (m' - m - 1) = e by omega] at hx
    omega
  · rw [show n - m' + (m' - m - 1) = e + 1 by omega] at hx
    omega

theorem shape_unique {f : Nat → Int} {n e e' m m' : Nat} {neg neg' : Bool} (h : Shape f n e neg m) (h' : Shape f n e' neg' m') : e = e' ∧ neg = neg' ∧ m = m' := by
  have e1 := shape_m h h'
  have e2 := shape_m h' h
  have em : m = m' := by omega
  subst em
  obtain ⟨a, b, c, d, g⟩ := h
  obtain ⟨a', b', c', d', g'⟩ := h'
  unfold isE at a a'
  rcases g with ⟨g, rfl⟩ | ⟨g, g2⟩ <;> rcases g' with ⟨g', rfl⟩ | ⟨g', g2'⟩
  · exact ⟨by omega, rfl, rfl⟩
  · have : e = e' + 1 := by omega
    subst this; omega
  · have : e' = e + 1 := by omega
    subst this; omega
  · have : e = e' := by omega
    subst this
    refine ⟨rfl, ?_, rfl⟩
    rcases g2 with ⟨q, rfl⟩ | ⟨q, rfl⟩ <;> rcases g2' with ⟨q', rfl⟩ | ⟨q', rfl⟩ <;> first | rfl | omega

theorem cutR_unique {f : Nat → Int} {n k k' : Nat} {v v' : Int} (h : CutR f n k v) (h' : CutR f n k' v') : k = k' ∧ v = v' := by
  rcases h with ⟨e, neg, m, h, rfl, rfl⟩ | ⟨h, rfl, rfl⟩ <;> rcases h' with ⟨e', neg', m', h', rfl, rfl⟩ | ⟨h', rfl, rfl⟩
  · obtain ⟨rfl, rfl, rfl⟩ := shape_unique h h'
    exact ⟨rfl, rfl⟩
  · exact absurd h (h' _ _ _)
  · exact absurd h' (h _ _ _)
  · exact ⟨rfl, rfl⟩

theorem cutR_no {f : Nat → Int} {n : Nat} (h : ∀ e neg m, ¬ Shape f n e neg m) : CutR f n n 0 := Or.inr ⟨h, rfl, rfl⟩

/-- No letter among the last five: no exponent. -/
theorem cutR_noE {f : Nat → Int} {n k : Nat} (hk : k = min 5 n) (h : ∀ t, n - k ≤ t → t < n → ¬ isE (f t)) : CutR f n n 0 := by
  refine cutR_no fun e neg m hs => ?_
  obtain ⟨a, b, c, d, g⟩ := hs
  exact h e (by omega) (by omega) a

/-- Where the digits begin behind the letter at e, and under which sign. -/
def Sign (f : Nat → Int) (n e o : Nat) (neg : Bool) : Prop :=
  (o = e + 1 ∧ neg = false ∧ ¬ (e + 1 < n ∧ (f (e + 1) = 43 ∨ f (e + 1) = 45))) ∨
  (o = e + 2 ∧ e + 1 < n ∧ ((f (e + 1) = 43 ∧ neg = false) ∨ (f (e + 1) = 45 ∧ neg = true)))

theorem shape_at {f : Nat → Int} {n e e' m : Nat} {neg : Bool} (hE : isE (f e)) (hen : e < n) (hr : ∀ t, e < t → t < n → ¬ isE (f t)) (h : Shape f n e' neg m) : e' = e := by
  obtain ⟨a, b, c, d, g⟩ := h
  apply Classical.byContradiction
  intro hne
  by_cases hlt : e < e'
  · exact hr e' hlt (by omega) a
  · unfold isE at hE
    by_cases hd : n - m ≤ e
    · have hx := d (e - (n - m)) (by omega)
      rw [show n - m + (e - (n - m)) = e by omega] at hx
      unfold dig at hx; omega
    · rcases g with ⟨g, _⟩ | ⟨g, g2⟩
      · omega
      · have : e = e' + 1 := by omega
        subst this; omega

theorem cutR_bad {f : Nat → Int} {n e o : Nat} {neg : Bool} (hE : isE (f e)) (hen : e < n) (hr : ∀ t, e < t → t < n → ¬ isE (f t)) (hs : Sign f n e o neg)
    (hb : n - o = 0 ∨ 3 < n - o ∨ ∃ i, i < n - o ∧ ¬ dig (f (o + i))) : CutR f n n 0 := by
  refine cutR_no fun e' neg' m h => ?_
  have := shape_at hE hen hr h
  subst this
  obtain ⟨a, b, c, d, g⟩ := h
  have key : n - o = m := by
    rcases hs with ⟨rfl, _, hs⟩ | ⟨rfl, hs1, hs⟩ <;> rcases g with ⟨g, _⟩ | ⟨g, g2⟩
    · omega
    · exact absurd ⟨by omega, by omega⟩ hs
    · have hx := d 0 (by omega)
      rw [show n - m + 0 = e' + 1 by omega] at hx
      unfold dig at hx; omega
    · omega
  have hon : n - m = o := by
    rcases hs with ⟨rfl, _, hs⟩ | ⟨rfl, hs1, hs⟩ <;> omega
  rcases hb with h0 | h3 | ⟨i, hi, hnd⟩
  · omega
  · omega
  · have hx := d i (by omega)
    rw [hon] at hx
    exact hnd hx

theorem cutR_yes {f : Nat → Int} {n e o : Nat} {neg : Bool} {v : Int} (hE : isE (f e)) (hen : e < n) (hs : Sign f n e o neg)
    (h1 : ¬ n - o = 0) (h3 : n - o ≤ 3) (hd : ∀ i, i < n - o → dig (f (o + i))) (hv : v = val (fun i => f (o + i)) (n - o)) : CutR f n e (sgn neg v) := by
  have hon : n - (n - o) = o := by omega
  refine Or.inl ⟨e, neg, n - o, ⟨hE, by omega, h3, fun i hi => by rw [hon]; exact hd i hi, ?_⟩, rfl, by rw [hv, hon]⟩
  rcases hs with ⟨rfl, rfl, hs⟩ | ⟨rfl, hs1, hs⟩
  · exact Or.inl ⟨by omega, rfl⟩
  · exact Or.inr ⟨by omega, hs⟩
end Go.Proofs.Qxb6603934a.Cut
