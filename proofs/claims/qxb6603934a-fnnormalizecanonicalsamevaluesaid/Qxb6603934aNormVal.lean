import Derived.Test.Qxb6603934aNormPlain
namespace Go.Proofs.Qxb6603934a.Norm

/-- The number that the limbs f k .. f (k + r - 1) stand for, f k at the units. -/
def hv (f : Nat → Int) (k : Nat) : Nat → Int
  | 0 => 0
  | r + 1 => f k + 1000000000 * hv f (k + 1) r

theorem hv_succ (f : Nat → Int) (k r : Nat) : hv f k (r + 1) = f k + 1000000000 * hv f (k + 1) r := rfl

theorem hv_congr {f g : Nat → Int} : ∀ (r k l : Nat), (∀ i, i < r → f (k + i) = g (l + i)) → hv f k r = hv g l r
  | 0, _, _, _ => rfl
  | r + 1, k, l, h => by
    have h0 := h 0 (by omega)
    simp only [Nat.add_zero] at h0
    rw [hv_succ, hv_succ, h0, hv_congr r (k + 1) (l + 1) (fun i hi => by
      have := h (i + 1) (by omega)
      rwa [show k + (i + 1) = k + 1 + i by omega, show l + (i + 1) = l + 1 + i by omega] at this)]

theorem hv_neg (f : Nat → Int) : ∀ (r k : Nat), hv (fun i => -f i) k r = -hv f k r
  | 0, _ => rfl
  | r + 1, k => by
    rw [hv_succ, hv_succ, hv_neg f r (k + 1)]
    omega

theorem hv_add (f : Nat → Int) (s : Nat) : ∀ (r k : Nat), hv f k (r + s) = hv f k r + 1000000000 ^ r * hv f (k + r) s
  | 0, k => by simp [hv]
  | r + 1, k => by
    rw [show r + 1 + s = (r + s) + 1 by omega, hv_succ, hv_succ, hv_add f s r (k + 1), show k + 1 + r = k + (r + 1) by omega, Int.pow_succ]
    rw [Int.mul_add, ← Int.mul_assoc, Int.mul_comm (1000000000 ^ r) 1000000000, Int.add_assoc]

/-- Carrying keeps the number. -/
theorem hv_carry (f : Nat → Int) : ∀ (r k : Nat), hv f k r + cy f k = hv (lm f) k r + 1000000000 ^ r * cy f (k + r)
  | 0, k => by simp [hv]
  | r + 1, k => by
    have ih := hv_carry f r (k + 1)
    have e : f k + cy f k = lm f k + 1000000000 * cy f (k + 1) := by rw [cy_step]; unfold lm; omega
    rw [hv_succ, hv_succ, show k + (r + 1) = k + 1 + r by omega, Int.pow_succ, Int.mul_comm (1000000000 ^ r) 1000000000, Int.mul_assoc]
    generalize 1000000000 ^ r * cy f (k + 1 + r) = P at ih
    omega

theorem hv_carry0 (f : Nat → Int) (n : Nat) : hv f 0 n = hv (lm f) 0 n + 1000000000 ^ n * cy f n := by
  have := hv_carry f n 0
  simp only [cy, Nat.zero_add, Int.add_zero] at this
  exact this

/-- The carry out of limbs that lie in -(B-1)..0 is -1 or 0. -/
theorem cy_small {h : Nat → Int} {n : Nat} (hh : ∀ i, i < n → -999999999 ≤ h i ∧ h i ≤ 0) : ∀ k, k ≤ n → -1 ≤ cy h k ∧ cy h k ≤ 0
  | 0, _ => by simp [cy]
  | k + 1, hk => by
    have a := cy_small hh k (by omega)
    have b := hh k (by omega)
    rw [cy_step]
    omega

/-- What normalize makes of n limbs f: N limbs F3, of which F .. L-1 are kept. -/
structure NR (f : Nat → Int) (n N : Nat) (F3 : Nat → Int) (F L : Nat) : Prop where
  top : N ≤ n + 2
  value : hv F3 0 N = hv f 0 n
  sign : (∀ i, i < N → 0 ≤ F3 i ∧ F3 i ≤ 999999999) ∨ (∀ i, i < N → -999999999 ≤ F3 i ∧ F3 i ≤ 0)
  fl : F ≤ L
  ln : L ≤ N
  high : ∀ i, L ≤ i → i < N → F3 i = 0
  low : ∀ i, i < F → F3 i = 0
  ends : F = L ∨ (F < L ∧ F3 F ≠ 0 ∧ F3 (L - 1) ≠ 0)

/-! Digits in a base are what they are. -/
theorem hv_zero {f : Nat → Int} : ∀ (r k : Nat), (∀ i, i < r → f (k + i) = 0) → hv f k r = 0
  | 0, _, _ => rfl
  | r + 1, k, h => by
    have h0 := h 0 (by omega)
    simp only [Nat.add_zero] at h0
    rw [hv_succ, h0, hv_zero r (k + 1) (fun i hi => by have := h (i + 1) (by omega); rwa [show k + (i + 1) = k + 1 + i by omega] at this)]
    omega

theorem hv_nonneg {f : Nat → Int} : ∀ (r k : Nat), (∀ i, i < r → 0 ≤ f (k + i)) → 0 ≤ hv f k r
  | 0, _, _ => by simp [hv]
  | r + 1, k, h => by
    have h0 := h 0 (by omega)
    have h1 := hv_nonneg r (k + 1) (fun i hi => by have := h (i + 1) (by omega); rwa [show k + (i + 1) = k + 1 + i by omega] at this)
    simp only [Nat.add_zero] at h0
    rw [hv_succ]
    omega

/-- Equal numbers of limbs in 0..B-1: limb by limb. -/
theorem hv_inj {f g : Nat → Int} : ∀ (r k l : Nat), (∀ i, i < r → 0 ≤ f (k + i) ∧ f (k + i) ≤ 999999999) → (∀ i, i < r → 0 ≤ g (l + i) ∧ g (l + i) ≤ 999999999) →
    hv f k r = hv g l r → ∀ i, i < r → f (k + i) = g (l + i)
  | 0, _, _, _, _, _ => fun i hi => absurd hi (by omega)
  | r + 1, k, l, hf, hg, h => by
    rw [hv_succ, hv_succ] at h
    have f0 := hf 0 (by omega)
    have g0 := hg 0 (by omega)
    simp only [Nat.add_zero] at f0 g0
    have e0 : f k = g l := by omega
    have e1 : hv f (k + 1) r = hv g (l + 1) r := by omega
    have ih := hv_inj r (k + 1) (l + 1) (fun i hi => by have := hf (i + 1) (by omega); rwa [show k + (i + 1) = k + 1 + i by omega] at this)
      (fun i hi => by have := hg (i + 1) (by omega); rwa [show l + (i + 1) = l + 1 + i by omega] at this) e1
    intro i hi
    match i, hi with
    | 0, _ => simpa using e0
    | i + 1, hi =>
      have := ih i (by omega)
      rwa [show k + (i + 1) = k + 1 + i by omega, show l + (i + 1) = l + 1 + i by omega]

/-- A number of limbs in 0..B-1 is zero only if they all are. -/
theorem hv_pos {f : Nat → Int} {r k i : Nat} (hf : ∀ i, i < r → 0 ≤ f (k + i) ∧ f (k + i) ≤ 999999999) (h0 : hv f k r = 0) (hi : i < r) : f (k + i) = 0 := by
  have := hv_inj (g := fun _ => 0) r k 0 hf (fun i _ => by omega) (by rw [h0, hv_zero (f := fun _ => 0) r 0 (fun _ _ => rfl)]) i hi
  simpa using this
end Go.Proofs.Qxb6603934a.Norm
