import Derived.WalkKit
namespace Go.Proofs.Qxb6603934a.Norm

/-! The plain side of carrying: limbs by their index, base 10^9. -/
def cy (f : Nat → Int) : Nat → Int
  | 0 => 0
  | k + 1 => (f k + cy f k) / 1000000000
def lm (f : Nat → Int) (k : Nat) : Int := (f k + cy f k) % 1000000000

theorem lm_range (f : Nat → Int) (k : Nat) : 0 ≤ lm f k ∧ lm f k ≤ 999999999 := by unfold lm; omega
theorem cy_bound {f : Nat → Int} {n : Nat} (h : ∀ i, i < n → -4611686018427387904 ≤ f i ∧ f i ≤ 4611686018427387904) : ∀ k, k ≤ n → -5000000000 ≤ cy f k ∧ cy f k ≤ 5000000000
  | 0, _ => by simp [cy]
  | k + 1, hk => by
    have a := cy_bound h k (by omega)
    have b := h k (by omega)
    simp only [cy]
    omega
theorem cy_step (f : Nat → Int) (k : Nat) : cy f (k + 1) = (f k + cy f k) / 1000000000 := rfl

theorem tdiv_low {v : Int} (h : v.tmod 1000000000 < 0) : v.tdiv 1000000000 - 1 = v / 1000000000 := by
  rw [Int.tmod_eq_emod] at h
  rw [Int.tdiv_eq_ediv]
  have hs : (1000000000 : Int).sign = 1 := rfl
  by_cases hc : 0 ≤ v ∨ (1000000000 : Int) ∣ v
  · rw [if_pos hc] at h; omega
  · rw [if_neg hc, hs]; omega
theorem tdiv_high {v : Int} (h : ¬ v.tmod 1000000000 < 0) : v.tdiv 1000000000 = v / 1000000000 := by
  rw [Int.tmod_eq_emod] at h
  rw [Int.tdiv_eq_ediv]
  by_cases hc : 0 ≤ v ∨ (1000000000 : Int) ∣ v
  · rw [if_pos hc]; omega
  · rw [if_neg hc] at h; omega
end Go.Proofs.Qxb6603934a.Norm
