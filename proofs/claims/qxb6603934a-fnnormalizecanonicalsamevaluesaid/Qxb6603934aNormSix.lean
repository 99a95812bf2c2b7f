import Derived.Test.Qxb6603934aNormAny
import Derived.Test.Qxb6603934aNormCanon
import Derived.Test.Qxb6603934aNormSameB
import Derived.Handy
namespace Go.Proofs.Qxb6603934a.Norm
open Go.RowKit Go.Deep

theorem hv_sub (a b : Nat → Int) : ∀ (r k : Nat), hv (fun j => a j - b j) k r = hv a k r - hv b k r
  | 0, _ => rfl
  | r + 1, k => by
    rw [hv_succ, hv_succ, hv_succ, hv_sub a b r (k + 1)]
    omega
/-- The difference of what came in and what comes out is nothing. -/
theorem val_d2 {f F3 : Nat → Int} {n N F L M : Nat} (h : NR f n N F3 F L) (hn : n ≤ M) (hL : L ≤ M) : hv (d2 f (fun i => F3 (F + i)) n F (L - F)) 0 M = 0 := by
  have e : hv (d2 f (fun i => F3 (F + i)) n F (L - F)) 0 M = hv (fun j => ext f n j - ext F3 L j) 0 M := by
    refine hv_congr M 0 0 (fun j _ => ?_)
    simp only [Nat.zero_add]
    have := h.fl
    unfold d2 d1 ext
    congr 1
    by_cases e1 : F ≤ j ∧ j < F + (L - F)
    · rw [if_pos e1, if_pos (by omega)]
      show F3 (F + (j - F)) = F3 j
      rw [show F + (j - F) = j by omega]
    · rw [if_neg e1]
      by_cases e2 : j < L
      · rw [if_pos e2, h.low j (by omega)]
      · rw [if_neg e2]
  have e1 := hv_ext f n (M - n)
  have e2 := hv_ext F3 L (M - L)
  rw [show n + (M - n) = M by omega] at e1
  rw [show L + (M - L) = M by omega] at e2
  have e3 := hv_add F3 (N - L) L 0
  have hln := h.ln
  rw [show L + (N - L) = N by omega, Nat.zero_add, hv_zero (f := F3) (N - L) L (fun i hi => h.high _ (by omega) (by omega)), Int.mul_zero, Int.add_zero] at e3
  rw [e, hv_sub, e1, e2, ← e3, h.value]
  omega
theorem val_d1 {f : Nat → Int} {n : Nat} (h : hv f 0 n = 0) : hv (d1 f n) 0 n = 0 := by
  rw [← h]
  exact hv_congr n 0 0 (fun j hj => by simp [d1, hj])

theorem Own.below {w w' : World} {B B' : Nat} {v : Value} {n : Nat} {f : Nat → Int} (h : Own w B v n f) (hb : Below B' w w') (hlt : ∀ k, v.ownBlock = some k → k < B') : Own w' B v n f := by
  rcases h with h | ⟨g, rfl, hg, hA⟩
  · exact Or.inl h
  · exact Or.inr ⟨g, rfl, hg, hA.below hb (hlt g rfl)⟩
theorem Own.lt {w : World} {B : Nat} {v : Value} {n : Nat} {f : Nat → Int} (h : Own w B v n f) : ∀ k, v.ownBlock = some k → k < w.heap.size := by
  rcases h with ⟨rfl, rfl⟩ | ⟨g, rfl, hg, hA⟩
  · intro k hk; simp [Value.ownBlock] at hk
  · intro k hk; simp [Value.ownBlock] at hk; subst hk; exact hA.lt
theorem Own.grown {w w' : World} {B : Nat} {v : Value} {n : Nat} {f : Nat → Int} {row : Option Nat} (h : Own w B v n f) (hg : w.grownBy w' row) (hne : ∀ k, row = some k → k < B) : Own w' B v n f := by
  rcases h with h | ⟨g, rfl, hb, hA⟩
  · exact Or.inl h
  · exact Or.inr ⟨g, rfl, hb, hA.grown hg (fun e => by have := hne g e.symm; omega)⟩
theorem Own.slice {w : World} {B : Nat} {v : Value} {n : Nat} {f : Nat → Int} (h : Own w B v n f) : ∃ ao c, v = .slice ao n c := by
  rcases h with ⟨rfl, rfl⟩ | ⟨g, rfl, _⟩
  · exact ⟨_, _, rfl⟩
  · exact ⟨_, _, rfl⟩

theorem bytes16 (v : Value) (n : Nat) (low pend : Int) (w : World) (hv : ∃ ao cap, v = .slice ao n cap) (hn : n ≤ 1048576) :
    Calls Try.prog 16 #[v, .int .i64 low, .int .i64 pend] w fun e w' => e = .returned (.bool true) ∧ w' = w := by
  obtain ⟨ao, cap, rfl⟩ := hv
  go_enter Try.func16, Try.ntmps16
  go_wp2
  go_ret
  exact ⟨rfl, rfl⟩

theorem bytes16_no (v : Value) (n : Nat) (low pend : Int) (w : World) (hv : ∃ ao cap, v = .slice ao n cap) (hn : ¬ n ≤ 1048576) (hm : n ≤ 9223372036854775807) :
    Calls Try.prog 16 #[v, .int .i64 low, .int .i64 pend] w fun e w' => e = .returned (.bool false) ∧ w' = w := by
  obtain ⟨ao, cap, rfl⟩ := hv
  go_enter Try.func16, Try.ntmps16
  go_wp2
  go_ret
  exact ⟨rfl, rfl⟩

/-- All that ends early. -/
theorem early6 (ao : Option Addr) (n cap : Nat) (f : Nat → Int) (low pend : Int) (w : World) (hr : Reads .i64 w (.slice ao n cap) n f) (hm : n ≤ 9223372036854775807)
    (h : ¬ n ≤ 1048576 ∨ 131072 < n ∨ low < -1073741824 ∨ 1073741824 < low ∨ inDom f n = false) :
    Calls Try.prog 6 #[.slice ao n cap, .int .i64 low, .int .i64 pend] w fun e w' => e = .returned (.bool true) ∧ Below w.heap.size w w' := by
  by_cases h1 : n ≤ 1048576
  · have h16 : Hid (Calls Try.prog 16 #[.slice ao n cap, .int .i64 low, .int .i64 pend] w fun e w' => e = .returned (.bool true) ∧ w' = w) := bytes16 _ n low pend w ⟨_, _, rfl⟩ h1
    by_cases h2 : 131072 < n
    · go_enter Try.func6, Try.ntmps6
      go_wp2_with fail
      refine h16.out.mono ?_
      rintro e w1 ⟨rfl, rfl⟩
      go_wp2
      go_ret
      exact ⟨rfl, Below.refl _ _⟩
    · by_cases h3 : low < -1073741824
      · go_enter Try.func6, Try.ntmps6
        go_wp2_with fail
        refine h16.out.mono ?_
        rintro e w1 ⟨rfl, rfl⟩
        go_wp2
        go_ret
        exact ⟨rfl, Below.refl _ _⟩
      · by_cases h4 : 1073741824 < low
        · go_enter Try.func6, Try.ntmps6
          go_wp2_with fail
          refine h16.out.mono ?_
          rintro e w1 ⟨rfl, rfl⟩
          go_wp2
          go_ret
          exact ⟨rfl, Below.refl _ _⟩
        · have h17 : Hid (Calls Try.prog 17 #[.slice ao n cap] w fun e w' => e = .returned (.bool (inDom f n)) ∧ w' = w) := dom_any _ n f w hr h1
          cases hd : inDom f n
          · rw [hd] at h17
            go_enter Try.func6, Try.ntmps6
            go_wp2_with fail
            refine h16.out.mono ?_
            rintro e w1 ⟨rfl, rfl⟩
            go_wp2_with fail
            refine h17.out.mono ?_
            rintro e w1 ⟨rfl, rfl⟩
            go_wp2
            go_ret
            exact ⟨rfl, Below.refl _ _⟩
          · rcases h with h | h | h | h | h
            · exact absurd h1 h
            · exact absurd h h2
            · exact absurd h h3
            · exact absurd h h4
            · rw [hd] at h; exact absurd h (by simp)
  · have h16 : Hid (Calls Try.prog 16 #[.slice ao n cap, .int .i64 low, .int .i64 pend] w fun e w' => e = .returned (.bool false) ∧ w' = w) := bytes16_no _ n low pend w ⟨_, _, rfl⟩ h1 hm
    go_enter Try.func6, Try.ntmps6
    go_wp2_with fail
    refine h16.out.mono ?_
    rintro e w1 ⟨rfl, rfl⟩
    go_wp2
    go_ret
    exact ⟨rfl, Below.refl _ _⟩

set_option maxHeartbeats 1000000 in
theorem idle6 (ao : Option Addr) (n cap : Nat) (f : Nat → Int) (low pend : Int) (w : World) (hr : Reads .i64 w (.slice ao n cap) n f) (h2 : ¬ 131072 < n) (h3 : ¬ low < -1073741824) (h4 : ¬ 1073741824 < low)
    (hd : inDom f n = true) (hp : pend = 0) :
    Calls Try.prog 6 #[.slice ao n cap, .int .i64 low, .int .i64 pend] w fun e w' => e = .returned (.bool true) ∧ Below w.heap.size w w' := by
  subst hp
  have h16 : Hid (Calls Try.prog 16 #[.slice ao n cap, .int .i64 low, .int .i64 0] w fun e w' => e = .returned (.bool true) ∧ w' = w) := bytes16 _ n low 0 w ⟨_, _, rfl⟩ (by omega)
  have h17 : Hid (Calls Try.prog 17 #[.slice ao n cap] w fun e w' => e = .returned (.bool (inDom f n)) ∧ w' = w) := dom_any _ n f w hr (by omega)
  rw [hd] at h17
  have hf : ∀ i, i < n → -4611686018427387904 ≤ f i ∧ f i ≤ 4611686018427387904 := by unfold inDom at hd; simpa using hd
  have HR : Hid (Reads .i64 w (.slice ao n cap) n f) := hr
  have HF : Hid (∀ i, i < n → -4611686018427387904 ≤ f i ∧ f i ≤ 4611686018427387904) := hf
  have hnil := nil29
  clear hd hr hf
  go_enter Try.func6, Try.ntmps6
  go_wp2_with fail
  refine h16.out.mono ?_
  rintro e w1 ⟨rfl, hw⟩
  have hw := hw.symm
  subst hw
  go_wp2_with fail
  refine h17.out.mono ?_
  rintro e w1 ⟨rfl, hw⟩
  have hw := hw.symm
  subst hw
  go_wp2_with fail
  refine (clone_any _ n f _ HR.out (by omega)).mono ?_
  rintro e w1 ⟨v1, rfl, ho1, hn1, hB1⟩
  have HO1 : Hid (Own w1 w.heap.size v1 n f) := ho1
  have HB1 : Hid (Below w.heap.size w w1) := hB1
  obtain ⟨ao1, c1, hv1⟩ := ho1.slice
  clear ho1 hB1 hn1
  subst hv1
  go_wp2_with fail
  refine (clone_any _ n f w1 HO1.out.reads (by omega)).mono ?_
  rintro e w2 ⟨v2, rfl, ho2, hn2, hB2⟩
  have HO2 : Hid (Own w2 w1.heap.size v2 n f) := ho2
  have HB2 : Hid (Below w1.heap.size w1 w2) := hB2
  have HN2 : Hid (nilB v2 = nilB (.slice ao1 n c1)) := hn2
  have HO1' : Hid (Own w2 w.heap.size (.slice ao1 n c1) n f) := HO1.out.below hB2 HO1.out.lt
  obtain ⟨ao2, c2, hv2⟩ := ho2.slice
  clear ho2 hB2 hn2
  subst hv2
  go_wp2_with fail
  refine (zz_idle w2 (.slice ao1 n c1) low ⟨_, _, _, rfl⟩).mono ?_
  rintro e w3 ⟨rfl, hB3⟩
  have HB3 : Hid (Below w2.heap.size w2 w3) := hB3
  have hnl : ao2.isNone = ao1.isNone := HN2.out
  have HR1 : Hid (Reads .i64 w3 (.slice ao1 n c1) n f) := HO1'.out.reads.below HO1'.out.reads.under hB3
  have HR2 : Hid (Reads .i64 w3 (.slice ao2 n c2) n f) := HO2.out.reads.below HO2.out.reads.under hB3
  clear hB3
  go_wp2_with fail
  refine (eq_any _ _ n f f w3 HR1.out HR2.out (by omega) (fun _ _ => rfl)).mono ?_
  rintro e w5 ⟨rfl, m, rfl⟩
  have HBz : Hid (Below w.heap.size w w3) := (HB1.out.trans (HB2.out.mono HB1.out.size)).trans (HB3.out.mono (Nat.le_trans HB1.out.size HB2.out.size))
  go_wp2
  go_ret
  exact ⟨rfl, HBz.out.os, HBz.out.tape, HBz.out.output, HBz.out.size, HBz.out.block⟩

set_option maxHeartbeats 1000000 in
theorem good6 (ao : Option Addr) (n cap : Nat) (f : Nat → Int) (low pend : Int) (w : World) (hr : Reads .i64 w (.slice ao n cap) n f) (h2 : ¬ 131072 < n) (h3 : ¬ low < -1073741824) (h4 : ¬ 1073741824 < low)
    (hd : inDom f n = true) (hp : (pend == 0) = false) :
    Calls Try.prog 6 #[.slice ao n cap, .int .i64 low, .int .i64 pend] w fun e w' => e = .returned (.bool true) ∧ Below w.heap.size w w' := by
  have h16 : Hid (Calls Try.prog 16 #[.slice ao n cap, .int .i64 low, .int .i64 pend] w fun e w' => e = .returned (.bool true) ∧ w' = w) := bytes16 _ n low pend w ⟨_, _, rfl⟩ (by omega)
  have h17 : Hid (Calls Try.prog 17 #[.slice ao n cap] w fun e w' => e = .returned (.bool (inDom f n)) ∧ w' = w) := dom_any _ n f w hr (by omega)
  rw [hd] at h17
  have hf : ∀ i, i < n → -4611686018427387904 ≤ f i ∧ f i ≤ 4611686018427387904 := by unfold inDom at hd; simpa using hd
  have HR : Hid (Reads .i64 w (.slice ao n cap) n f) := hr
  have HF : Hid (∀ i, i < n → -4611686018427387904 ≤ f i ∧ f i ≤ 4611686018427387904) := hf
  have hnil := nil29
  clear hd hr hf
  go_enter Try.func6, Try.ntmps6
  go_wp2_with fail
  refine h16.out.mono ?_
  rintro e w1 ⟨rfl, hw⟩
  have hw := hw.symm
  subst hw
  go_wp2_with fail
  refine h17.out.mono ?_
  rintro e w1 ⟨rfl, hw⟩
  have hw := hw.symm
  subst hw
  go_wp2_with fail
  refine (clone_any _ n f _ HR.out (by omega)).mono ?_
  rintro e w1 ⟨v1, rfl, ho1, hn1, hB1⟩
  have HO1 : Hid (Own w1 w.heap.size v1 n f) := ho1
  have HB1 : Hid (Below w.heap.size w w1) := hB1
  obtain ⟨ao1, c1, hv1⟩ := ho1.slice
  clear ho1 hB1 hn1
  subst hv1
  go_wp2_with fail
  refine (clone_any _ n f w1 HO1.out.reads (by omega)).mono ?_
  rintro e w2 ⟨v2, rfl, ho2, hn2, hB2⟩
  have HO2 : Hid (Own w2 w1.heap.size v2 n f) := ho2
  have HB2 : Hid (Below w1.heap.size w1 w2) := hB2
  have HN2 : Hid (nilB v2 = nilB (.slice ao1 n c1)) := hn2
  have HO1' : Hid (Own w2 w.heap.size (.slice ao1 n c1) n f) := HO1.out.below hB2 HO1.out.lt
  obtain ⟨ao2, c2, hv2⟩ := ho2.slice
  clear ho2 hB2 hn2
  subst hv2
  go_wp2_with fail
  refine (zz_any _ n f low pend w2 w.heap.size (Nat.le_trans HB1.out.size HB2.out.size) HO1'.out HF.out (by omega) (by omega) hp).mono ?_
  rintro e w3 ⟨out, outLow, n2, f2, rfl, hout, hg3⟩
  have HB3 : Hid (Below w.heap.size w2 w3) := below_of_grown HO1'.out (Nat.le_trans HB1.out.size HB2.out.size) hg3
  have HO3 : Hid (Own w3 w1.heap.size (.slice ao2 n c2) n f) := HO2.out.grown hg3 HO1.out.lt
  have HBz : Hid (Below w.heap.size w w3) := (HB1.out.trans (HB2.out.mono HB1.out.size)).trans HB3.out
  obtain ⟨hreads, N, F3, F, L, hNR, hn2, hf2, hres⟩ := hout
  have hln := hNR.ln
  have htop := hNR.top
  rcases hres with ⟨hFL, hout, hlo⟩ | ⟨hFL, hlo, g', c, hout, hg'⟩
  · subst hout hlo
    have hv0 : hv f 0 n = 0 := by
      rw [← hNR.value]
      exact hv_zero N 0 (fun i hi => by
        simp only [Nat.zero_add]
        by_cases e : i < F
        · exact hNR.low i e
        · exact hNR.high i (by omega) hi)
    have H21 : Hid (Calls Try.prog 21 #[.slice none 0 0] w3 fun e w' => e = .returned (.bool true) ∧ w' = w3) := canon_nil w3
    have H22 : Hid (Calls Try.prog 22 #[.slice ao2 n c2, .int .i64 low, .slice none 0 0, .int .i64 low] w3 fun e w' => e = .returned (.bool true) ∧ Below w3.heap.size w3 w') := by
      by_cases h0 : 0 < n
      · exact same_nil _ n f low w3 HO3.out.reads (by omega) h0 HF.out (by omega) (val_d1 hv0)
      · have : n = 0 := by omega
        subst this
        exact same_none _ f low w3 HO3.out.reads (by omega)
    clear hreads hNR hn2 hf2 hg3 hv0
    go_wp2_with fail
    refine H21.out.mono ?_
    rintro e w4 ⟨rfl, hw⟩
    have hw := hw.symm
    subst hw
    go_wp2_with fail
    refine H22.out.mono ?_
    rintro e w5 ⟨rfl, hB5⟩
    have HB5 : Hid (Below w3.heap.size w3 w5) := hB5
    clear hB5
    go_wp2
    go_ret
    exact ⟨rfl, HBz.out.trans (HB5.out.mono HBz.out.size)⟩
  · have hn0 : 0 < n := by
      apply Classical.byContradiction
      intro h
      have : n = 0 := by omega
      subst this
      have := hNR.zero rfl
      omega
    have hends : F3 F ≠ 0 ∧ F3 (L - 1) ≠ 0 := by
      rcases hNR.ends with e | ⟨_, a, b⟩
      · omega
      · exact ⟨a, b⟩
    have H21 : Hid (Calls Try.prog 21 #[.slice (some ⟨g', F, none⟩) (L - F) c] w3 fun e w' => e = .returned (.bool true) ∧ w' = w3) := by
      rw [hn2, hf2, hout] at hreads
      refine canon_some _ (L - F) (fun i => F3 (F + i)) w3 hreads (by omega) (by omega) (beq_eq_false_iff_ne.2 (by simpa using hends.1)) (beq_eq_false_iff_ne.2 ?_) ?_
      · show F3 (F + (L - F - 1)) ≠ 0
        rw [show F + (L - F - 1) = L - 1 by omega]; exact hends.2
      · rcases hNR.sign with s | s
        · exact Or.inl fun i hi => s _ (by omega)
        · exact Or.inr fun i hi => s _ (by omega)
    have H22 : Hid (Calls Try.prog 22 #[.slice ao2 n c2, .int .i64 low, .slice (some ⟨g', F, none⟩) (L - F) c, .int .i64 (low + F)] w3 fun e w' => e = .returned (.bool true) ∧ Below w3.heap.size w3 w') := by
      rw [hn2, hf2, hout] at hreads
      have hb2 : ∀ i, i < L - F → -999999999 ≤ F3 (F + i) ∧ F3 (F + i) ≤ 999999999 := by
        intro i hi
        rcases hNR.sign with s | s
        · have := s (F + i) (by omega); omega
        · have := s (F + i) (by omega); omega
      by_cases hc : F + (L - F) ≤ n
      · exact same_in _ _ n (L - F) F f (fun i => F3 (F + i)) low w3 HO3.out.reads hreads (by omega) (by omega) (by omega) hn0 HF.out hb2 (by omega) hc (val_d2 hNR (by omega) (by omega))
      · exact same_out _ _ n (L - F) F f (fun i => F3 (F + i)) low w3 HO3.out.reads hreads (by omega) (by omega) (by omega) hn0 HF.out hb2 (by omega) hc (val_d2 hNR (by omega) (by omega))
    subst hout hlo
    obtain ⟨m, hm⟩ : ∃ m, m = L - F := ⟨_, rfl⟩
    rw [← hm] at H21 H22 ⊢
    have hm0 : 0 < m := by omega
    have hm1 : F + m ≤ n + 2 := by omega
    have hmz : ((m : Int) == 0) = false := beq_eq_false_iff_ne.2 (by omega)
    clear hreads hNR hn2 hf2 hg3 hends hm
    go_wp2_with fail
    refine H21.out.mono ?_
    rintro e w4 ⟨rfl, hw⟩
    have hw := hw.symm
    subst hw
    go_wp2_with fail
    refine H22.out.mono ?_
    rintro e w5 ⟨rfl, hB5⟩
    have HB5 : Hid (Below w3.heap.size w3 w5) := hB5
    clear hB5
    go_wp2
    go_ret
    exact ⟨rfl, HBz.out.trans (HB5.out.mono HBz.out.size)⟩

end Go.Proofs.Qxb6603934a.Norm
