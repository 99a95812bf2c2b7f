import Derived.Test.Qxb6603934aNormWide
import Derived.Test.Qxb6603934aAppend
namespace Go.Proofs.Qxb6603934a.Norm
open Go.RowKit Go.Deep

/-- The limbs as they lie in the course of normalize: m of them, F, in row g' (row g itself or one made since). -/
structure Limbs (B g : Nat) (low : Int) (w wr : World) (g' cap' m : Nat) (F : Nat → Int) : Prop where
  wide : Wide wr B (.slice (some ⟨g', 0, none⟩) m cap') low 0
  arr : Arr wr g' 2 cap' m (fun i => .int .i64 (F i))
  cap : cap' ≤ maxLen
  row : g' = g ∨ w.heap.size ≤ g'
  kept : Kept B g w wr

theorem Limbs.ne {B g : Nat} {low : Int} {w wr : World} {g' cap' m : Nat} {F : Nat → Int} (h : Limbs B g low w wr g' cap' m F) : g' ≠ B := h.wide.ne h.arr
theorem Limbs.draw {B g : Nat} {low : Int} {w wr : World} {g' cap' m : Nat} {F : Nat → Int} (h : Limbs B g low w wr g' cap' m F) : Limbs B g low w wr.drew g' cap' m F :=
  ⟨h.wide.drew, h.arr.drew, h.cap, h.row, h.kept.drew⟩
/-- Behind carry or negate. -/
theorem Limbs.turn {B g : Nat} {low : Int} {w wr w' : World} {g' cap' m : Nat} {F G : Nat → Int} (h : Limbs B g low w wr g' cap' m F) (ht : Turned g' cap' m G wr w') : Limbs B g low w w' g' cap' m G :=
  ⟨h.wide.grown ht.2.1 (by simp; exact fun e => h.ne e.symm), ht.1, h.cap, h.row, h.kept.grown ht.2.1 (fun k hk => by
    simp only [Option.some.injEq] at hk
    subst hk
    exact h.row)⟩

/-- What the appending loop holds: d limbs appended, c still to be written. -/
def Put (n : Nat) (f1 : Nat → Int) (C : Int) (d : Nat) (F : Nat → Int) (c : Int) : Prop :=
  (∀ i, i < n → F i = f1 i) ∧ ((d = 0 ∧ c = C) ∨ (d = 1 ∧ F n = C % 1000000000 ∧ c = C / 1000000000) ∨ (d = 2 ∧ F n = C % 1000000000 ∧ F (n + 1) = C / 1000000000 % 1000000000 ∧ c = C / 1000000000 / 1000000000))

theorem put_bound {n d : Nat} {f1 F : Nat → Int} {C c : Int} (h : Put n f1 C d F c) (h0 : 0 ≤ C) (h1 : C ≤ 6000000000) : 0 ≤ c ∧ c ≤ 6000000000 ∧ d ≤ 2 ∧ (0 < c → d ≤ 1) := by
  obtain ⟨_, ⟨rfl, rfl⟩ | ⟨rfl, _, rfl⟩ | ⟨rfl, _, _, rfl⟩⟩ := h <;> omega

theorem put_step {n d : Nat} {f1 F : Nat → Int} {C c : Int} (h : Put n f1 C d F c) (h0 : 0 ≤ C) (h1 : C ≤ 6000000000) (hc : 0 < c) :
    Put n f1 C (d + 1) (fun i => if i < n + d then F i else c % 1000000000) (c / 1000000000) := by
  obtain ⟨hi, h⟩ := h
  refine ⟨fun i hlt => by show (if i < n + d then F i else _) = _; rw [if_pos (by omega)]; exact hi i hlt, ?_⟩
  rcases h with ⟨rfl, rfl⟩ | ⟨rfl, h2, rfl⟩ | ⟨rfl, _, _, rfl⟩
  · exact Or.inr (Or.inl ⟨rfl, by simp, rfl⟩)
  · exact Or.inr (Or.inr ⟨rfl, by simp [h2], by simp, rfl⟩)
  · omega

theorem Limbs.append {B g : Nat} {low : Int} {w wr : World} {g' cap' m : Nat} {F : Nat → Int} (h : Limbs B g low w wr g' cap' m F) {o : Obj} {x : Int} {v' : Value} {w1 : World}
    (ha : Appended (wr.alloc o) (some g') 2 1 m 1 (fun i => .int .i64 (F i)) [.int .i64 x] v' w1) :
    ∃ g'' cap'', v' = .slice (some ⟨g'', 0, none⟩) (m + 1) cap'' ∧ Wide w1 B (.slice (some ⟨g', 0, none⟩) m cap') low 0 ∧
      Limbs B g low w (w1.setCell ⟨B, 0, none⟩ v') g'' cap'' (m + 1) (fun i => if i < m then F i else x) := by
  obtain ⟨g'', cap'', rfl, hA, hc, hm, hr, hg⟩ := ha
  have hne := h.ne
  have hW1 : Wide w1 B (.slice (some ⟨g', 0, none⟩) m cap') low 0 := (h.wide.alloc o).grown hg (by simp; exact fun e => hne e.symm)
  have hA1 : Arr w1 g'' 2 cap'' (m + 1) (fun i => .int .i64 (if i < m then F i else x)) := by
    simp only [Nat.mul_one] at hA
    refine hA.congr (fun i hi => ?_)
    by_cases e : i < m
    · simp [e]
    · have : i - m = 0 := by omega
      simp [e, this]
  refine ⟨g'', cap'', rfl, hW1, hW1.set0 _, hA1.setOther (hW1.ne hA1) _, hm, ?_, ((h.kept.alloc o).grown hg (fun k hk => ?_)).setB 0 _⟩
  · rcases hr with e | e
    · simp only [Option.some.injEq] at e
      rw [e]; exact h.row
    · right
      have := h.kept.size
      rw [nblk_alloc] at e
      omega
  · simp only [Option.some.injEq] at hk
    subst hk
    exact h.row

theorem put_val {n d : Nat} {f1 F : Nat → Int} {C : Int} (h : Put n f1 C d F 0) (h0 : 0 ≤ C) : hv F 0 (n + d) = hv f1 0 n + 1000000000 ^ n * C := by
  obtain ⟨hi, h⟩ := h
  rw [hv_add F d n 0, hv_congr (f := F) (g := f1) n 0 0 (fun i hlt => by simpa using hi i hlt), Nat.zero_add]
  have e : hv F n d = C := by
    rcases h with ⟨rfl, rfl⟩ | ⟨rfl, h2, h3⟩ | ⟨rfl, h2, h3, h4⟩
    · rfl
    · simp only [hv]; omega
    · simp only [hv]; omega
  rw [e]
theorem put_range {n d : Nat} {f1 F : Nat → Int} {C : Int} (h : Put n f1 C d F 0) (h1 : ∀ i, 0 ≤ f1 i ∧ f1 i ≤ 999999999) : ∀ i, i < n + d → 0 ≤ F i ∧ F i ≤ 999999999 := by
  obtain ⟨hi, h⟩ := h
  intro i hlt
  by_cases e : i < n
  · rw [hi i e]; exact h1 i
  · rcases h with ⟨rfl, rfl⟩ | ⟨rfl, h2, h3⟩ | ⟨rfl, h2, h3, h4⟩
    · omega
    · have : i = n := by omega
      subst this; omega
    · have : i = n ∨ i = n + 1 := by omega
      rcases this with rfl | rfl <;> omega

/-- The last line of both ways: limbs kept from k to l. -/
theorem nr_some {f F3 : Nat → Int} {n N k l : Nat} (htop : N ≤ n + 2) (hval : hv F3 0 N = hv f 0 n) (hs : (∀ i, i < N → 0 ≤ F3 i ∧ F3 i ≤ 999999999) ∨ (∀ i, i < N → -999999999 ≤ F3 i ∧ F3 i ≤ 0))
    (hk : k ≤ l) (hl : l + 1 ≤ N) (hhi : ∀ i, l + 1 ≤ i → i < N → F3 i = 0) (hlo : ∀ i, i < k → F3 i = 0) (h1 : (F3 l == 0) = false) (h2 : (F3 k == 0) = false) : NR f n N F3 k (l + 1) :=
  ⟨htop, hval, hs, by omega, hl, hhi, hlo, Or.inr ⟨by omega, by simpa using h2, by simpa using h1⟩⟩
theorem nr_none {f F3 : Nat → Int} {n N : Nat} (htop : N ≤ n + 2) (hval : hv F3 0 N = hv f 0 n) (hs : (∀ i, i < N → 0 ≤ F3 i ∧ F3 i ≤ 999999999) ∨ (∀ i, i < N → -999999999 ≤ F3 i ∧ F3 i ≤ 0))
    (hhi : ∀ i, 0 ≤ i → i < N → F3 i = 0) : NR f n N F3 0 0 :=
  ⟨htop, hval, hs, by omega, by omega, hhi, fun i h => absurd h (by omega), Or.inl rfl⟩
end Go.Proofs.Qxb6603934a.Norm
