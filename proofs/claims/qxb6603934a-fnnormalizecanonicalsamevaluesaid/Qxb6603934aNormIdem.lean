import Derived.Test.Qxb6603934aNormVal
namespace Go.Proofs.Qxb6603934a.Norm

/-- Limbs of one sign, each below the base. -/
def Signed (f : Nat → Int) (n : Nat) : Prop := (∀ i, i < n → 0 ≤ f i ∧ f i ≤ 999999999) ∨ (∀ i, i < n → -999999999 ≤ f i ∧ f i ≤ 0)
def ext (f : Nat → Int) (n i : Nat) : Int := if i < n then f i else 0

theorem hv_ext (f : Nat → Int) (n s : Nat) : hv (ext f n) 0 (n + s) = hv f 0 n := by
  rw [hv_add, hv_congr (f := ext f n) (g := f) n 0 0 (fun i hi => by simp [ext, hi]), Nat.zero_add,
    hv_zero (f := ext f n) s n (fun i _ => by unfold ext; rw [if_neg (by omega)])]
  simp

theorem ext_neg (f : Nat → Int) (n i : Nat) : ext (fun j => -f j) n i = -ext f n i := by unfold ext; split <;> simp

theorem unique_pos {f g : Nat → Int} {n m : Nat} (hf : ∀ i, i < n → 0 ≤ f i ∧ f i ≤ 999999999) (hg : ∀ i, i < m → 0 ≤ g i ∧ g i ≤ 999999999) (h : hv f 0 n = hv g 0 m) : ∀ i, ext f n i = ext g m i := by
  intro i
  by_cases hi : i < n + m
  · have h1 := hv_ext f n m
    have h2 := hv_ext g m n
    rw [Nat.add_comm m n] at h2
    have := hv_inj (f := ext f n) (g := ext g m) (n + m) 0 0 (fun j _ => by unfold ext; simp only [Nat.zero_add]; split; exact hf j ‹_›; omega) (fun j _ => by unfold ext; simp only [Nat.zero_add]; split; exact hg j ‹_›; omega) (by rw [h1, h2, h]) i hi
    simpa using this
  · unfold ext
    rw [if_neg (by omega), if_neg (by omega)]

theorem all_zero {f : Nat → Int} {n : Nat} (hf : Signed f n) (h : hv f 0 n = 0) : ∀ i, i < n → f i = 0 := by
  intro i hi
  rcases hf with hf | hf
  · have := hv_pos (f := f) (k := 0) (fun i hi => by simpa using hf i hi) h hi
    simpa using this
  · have := hv_pos (f := fun i => -f i) (r := n) (k := 0) (fun i hi => by have := hf i hi; simp; omega) (by rw [hv_neg, h]; rfl) hi
    simp at this
    exact this

theorem signed_le {f : Nat → Int} {n : Nat} (hf : ∀ i, i < n → -999999999 ≤ f i ∧ f i ≤ 0) : hv f 0 n ≤ 0 := by
  have := hv_nonneg (f := fun i => -f i) n 0 (fun i hi => by have := hf i hi; simp; omega)
  rw [hv_neg] at this
  omega

/-- Equal numbers are equal limbs, zeros at the top aside. -/
theorem unique {f g : Nat → Int} {n m : Nat} (hf : Signed f n) (hg : Signed g m) (h : hv f 0 n = hv g 0 m) : ∀ i, ext f n i = ext g m i := by
  have both0 : hv f 0 n = 0 → ∀ i, ext f n i = ext g m i := fun h0 i => by
    have a := all_zero hf h0
    have b := all_zero hg (by rw [← h]; exact h0)
    unfold ext
    by_cases h1 : i < n <;> by_cases h2 : i < m
    · rw [if_pos h1, if_pos h2, a i h1, b i h2]
    · rw [if_pos h1, if_neg h2, a i h1]
    · rw [if_neg h1, if_pos h2, b i h2]
    · rw [if_neg h1, if_neg h2]
  rcases hf with hf | hf <;> rcases hg with hg | hg
  · exact unique_pos hf hg h
  · have h1 := hv_nonneg (f := f) n 0 (fun i hi => by have := hf i hi; simp; omega)
    have h2 := signed_le hg
    exact both0 (by omega)
  · have h1 := hv_nonneg (f := g) m 0 (fun i hi => by have := hg i hi; simp; omega)
    have h2 := signed_le hf
    exact both0 (by omega)
  · intro i
    have := unique_pos (f := fun j => -f j) (g := fun j => -g j) (n := n) (m := m) (fun j hj => by have := hf j hj; show 0 ≤ -f j ∧ -f j ≤ 999999999; omega) (fun j hj => by have := hg j hj; show 0 ≤ -g j ∧ -g j ≤ 999999999; omega) (by rw [hv_neg, hv_neg, h]) i
    rw [ext_neg, ext_neg] at this
    omega

theorem NR.signed {f : Nat → Int} {n N F L : Nat} {F3 : Nat → Int} (h : NR f n N F3 F L) : Signed F3 N := h.sign
/-- Zero comes out as nothing. -/
theorem NR.zero {f : Nat → Int} {n N F L : Nat} {F3 : Nat → Int} (h : NR f n N F3 F L) (h0 : hv f 0 n = 0) : F = L := by
  have a := all_zero h.signed (by rw [h.value]; exact h0)
  rcases h.ends with e | ⟨e, h1, _⟩
  · exact e
  · exact absurd (a F (by have := h.ln; omega)) h1

/-- What was normalized is left as it is. -/
theorem NR.again {f : Nat → Int} {n N F L : Nat} {F3 : Nat → Int} (h : NR f n N F3 F L) (hlt : F < L) {N' F' L' : Nat} {G : Nat → Int}
    (h' : NR (fun i => F3 (F + i)) (L - F) N' G F' L') : F' = 0 ∧ L' = L - F ∧ ∀ i, i < L - F → G i = F3 (F + i) := by
  have hLN := h.ln
  have hs : Signed (fun i => F3 (F + i)) (L - F) := by
    rcases h.sign with s | s
    · exact Or.inl fun i hi => s _ (by omega)
    · exact Or.inr fun i hi => s _ (by omega)
  have u := unique h'.signed hs h'.value
  obtain ⟨e0, e1⟩ : F3 F ≠ 0 ∧ F3 (L - 1) ≠ 0 := by
    rcases h.ends with e | ⟨_, a, b⟩
    · omega
    · exact ⟨a, b⟩
  have utop := u (L - F - 1)
  simp only [ext] at utop
  rw [if_pos (show L - F - 1 < L - F by omega), show F + (L - F - 1) = L - 1 by omega] at utop
  have hN' : L - F ≤ N' := by
    apply Classical.byContradiction
    intro hc
    rw [if_neg (by omega)] at utop
    exact e1 utop.symm
  have hG : ∀ i, i < L - F → G i = F3 (F + i) := fun i hi => by
    have := u i
    simp only [ext] at this
    rwa [if_pos (by omega), if_pos hi] at this
  have hGz : ∀ i, L - F ≤ i → i < N' → G i = 0 := fun i h1 h2 => by
    have := u i
    simp only [ext] at this
    rwa [if_pos h2, if_neg (by omega)] at this
  have gtop : G (L - F - 1) ≠ 0 := by rw [hG _ (by omega), show F + (L - F - 1) = L - 1 by omega]; exact e1
  have g0 : G 0 ≠ 0 := by rw [hG 0 (by omega)]; simpa using e0
  have hL1 : L - F ≤ L' := by
    apply Classical.byContradiction
    intro hc
    exact gtop (h'.high (L - F - 1) (by omega) (by omega))
  have hF0 : F' = 0 := by
    apply Classical.byContradiction
    intro hc
    exact g0 (h'.low 0 (by omega))
  have hL2 : L' ≤ L - F := by
    apply Classical.byContradiction
    intro hc
    rcases h'.ends with e | ⟨_, _, b⟩
    · omega
    · exact b (hGz _ (by omega) (by have := h'.ln; omega))
  exact ⟨hF0, by omega, hG⟩

theorem NR.bounds {f : Nat → Int} {n N F L : Nat} {F3 : Nat → Int} (h : NR f n N F3 F L) : ∀ i, i < L - F → -4611686018427387904 ≤ F3 (F + i) ∧ F3 (F + i) ≤ 4611686018427387904 := by
  intro i hi
  have := h.ln
  rcases h.sign with s | s
  · have := s (F + i) (by omega); omega
  · have := s (F + i) (by omega); omega
end Go.Proofs.Qxb6603934a.Norm
