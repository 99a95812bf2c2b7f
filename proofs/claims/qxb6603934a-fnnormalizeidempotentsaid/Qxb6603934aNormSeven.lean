import Derived.Test.Qxb6603934aNormAny
import Derived.Handy
namespace Go.Proofs.Qxb6603934a.Norm
open Go.RowKit Go.Deep

theorem bytes23 (v : Value) (n : Nat) (low pend : Int) (w : World) (hv : ∃ ao cap, v = .slice ao n cap) (hn : n ≤ 1048576) :
    Calls Try.prog 23 #[v, .int .i64 low, .int .i64 pend] w fun e w' => e = .returned (.bool true) ∧ w' = w := by
  obtain ⟨ao, cap, rfl⟩ := hv
  go_enter Try.func23, Try.ntmps23
  go_wp2
  go_ret
  exact ⟨rfl, rfl⟩

theorem bytes23_no (v : Value) (n : Nat) (low pend : Int) (w : World) (hv : ∃ ao cap, v = .slice ao n cap) (hn : ¬ n ≤ 1048576) (hm : n ≤ 9223372036854775807) :
    Calls Try.prog 23 #[v, .int .i64 low, .int .i64 pend] w fun e w' => e = .returned (.bool false) ∧ w' = w := by
  obtain ⟨ao, cap, rfl⟩ := hv
  go_enter Try.func23, Try.ntmps23
  go_wp2
  go_ret
  exact ⟨rfl, rfl⟩

/-- All that ends early. -/
theorem early7 (ao : Option Addr) (n cap : Nat) (f : Nat → Int) (low pend : Int) (w : World) (hr : Reads .i64 w (.slice ao n cap) n f) (hm : n ≤ 9223372036854775807)
    (h : ¬ n ≤ 1048576 ∨ 131072 < n ∨ low < -1073741824 ∨ 1073741824 < low ∨ inDom f n = false ∨ (pend == 0) = true) :
    Calls Try.prog 7 #[.slice ao n cap, .int .i64 low, .int .i64 pend] w fun e w' => e = .returned (.bool true) ∧ Below w.heap.size w w' := by
  by_cases h1 : n ≤ 1048576
  · have h23 : Hid (Calls Try.prog 23 #[.slice ao n cap, .int .i64 low, .int .i64 pend] w fun e w' => e = .returned (.bool true) ∧ w' = w) := bytes23 _ n low pend w ⟨_, _, rfl⟩ h1
    by_cases h2 : 131072 < n
    · go_enter Try.func7, Try.ntmps7
      go_wp2_with fail
      refine h23.out.mono ?_
      rintro e w1 ⟨rfl, rfl⟩
      go_wp2
      go_ret
      exact ⟨rfl, Below.refl _ _⟩
    · by_cases h3 : low < -1073741824
      · go_enter Try.func7, Try.ntmps7
        go_wp2_with fail
        refine h23.out.mono ?_
        rintro e w1 ⟨rfl, rfl⟩
        go_wp2
        go_ret
        exact ⟨rfl, Below.refl _ _⟩
      · by_cases h4 : 1073741824 < low
        · go_enter Try.func7, Try.ntmps7
          go_wp2_with fail
          refine h23.out.mono ?_
          rintro e w1 ⟨rfl, rfl⟩
          go_wp2
          go_ret
          exact ⟨rfl, Below.refl _ _⟩
        · have h17 : Hid (Calls Try.prog 17 #[.slice ao n cap] w fun e w' => e = .returned (.bool (inDom f n)) ∧ w' = w) := dom_any _ n f w hr h1
          cases hd : inDom f n
          · rw [hd] at h17
            go_enter Try.func7, Try.ntmps7
            go_wp2_with fail
            refine h23.out.mono ?_
            rintro e w1 ⟨rfl, rfl⟩
            go_wp2_with fail
            refine h17.out.mono ?_
            rintro e w1 ⟨rfl, rfl⟩
            go_wp2
            go_ret
            exact ⟨rfl, Below.refl _ _⟩
          · have hp : (pend == 0) = true := by
              rcases h with h | h | h | h | h | h
              · exact absurd h1 h
              · exact absurd h h2
              · exact absurd h h3
              · exact absurd h h4
              · rw [hd] at h; exact absurd h (by simp)
              · exact h
            rw [hd] at h17
            clear hd h
            go_enter Try.func7, Try.ntmps7
            go_wp2_with fail
            refine h23.out.mono ?_
            rintro e w1 ⟨rfl, rfl⟩
            go_wp2_with fail
            refine h17.out.mono ?_
            rintro e w1 ⟨rfl, rfl⟩
            go_wp2
            go_ret
            exact ⟨rfl, Below.refl _ _⟩
  · have h23 : Hid (Calls Try.prog 23 #[.slice ao n cap, .int .i64 low, .int .i64 pend] w fun e w' => e = .returned (.bool false) ∧ w' = w) := bytes23_no _ n low pend w ⟨_, _, rfl⟩ h1 hm
    go_enter Try.func7, Try.ntmps7
    go_wp2_with fail
    refine h23.out.mono ?_
    rintro e w1 ⟨rfl, rfl⟩
    go_wp2
    go_ret
    exact ⟨rfl, Below.refl _ _⟩

theorem nilB_slice (ao : Option Addr) (n c : Nat) : nilB (.slice ao n c) = ao.isNone := rfl

set_option maxHeartbeats 1000000 in
theorem good7 (ao : Option Addr) (n cap : Nat) (f : Nat → Int) (low pend : Int) (w : World) (hr : Reads .i64 w (.slice ao n cap) n f) (h2 : ¬ 131072 < n) (h3 : ¬ low < -1073741824) (h4 : ¬ 1073741824 < low)
    (hd : inDom f n = true) (hp : (pend == 0) = false) :
    Calls Try.prog 7 #[.slice ao n cap, .int .i64 low, .int .i64 pend] w fun e w' => e = .returned (.bool true) ∧ Below w.heap.size w w' := by
  have h23 : Hid (Calls Try.prog 23 #[.slice ao n cap, .int .i64 low, .int .i64 pend] w fun e w' => e = .returned (.bool true) ∧ w' = w) := bytes23 _ n low pend w ⟨_, _, rfl⟩ (by omega)
  have h17 : Hid (Calls Try.prog 17 #[.slice ao n cap] w fun e w' => e = .returned (.bool (inDom f n)) ∧ w' = w) := dom_any _ n f w hr (by omega)
  rw [hd] at h17
  have hf : ∀ i, i < n → -4611686018427387904 ≤ f i ∧ f i ≤ 4611686018427387904 := by unfold inDom at hd; simpa using hd
  have HR : Hid (Reads .i64 w (.slice ao n cap) n f) := hr
  have HF : Hid (∀ i, i < n → -4611686018427387904 ≤ f i ∧ f i ≤ 4611686018427387904) := hf
  have hnil := nil29
  clear hd hr hf
  go_enter Try.func7, Try.ntmps7
  go_wp2_with fail
  refine h23.out.mono ?_
  rintro e w1 ⟨rfl, hw⟩
  have hw := hw.symm
  subst hw
  go_wp2_with fail
  refine h17.out.mono ?_
  rintro e w1 ⟨rfl, hw⟩
  have hw := hw.symm
  subst hw
  go_wp2_with fail
  refine (clone_any _ n f _ HR.out (by omega)).mono ?_
  rintro e w1 ⟨v1, rfl, ho1, hn1, hB1⟩
  have HO1 : Hid (Own w1 w.heap.size v1 n f) := ho1
  have HB1 : Hid (Below w.heap.size w w1) := hB1
  obtain ⟨ao1, c1, hv1⟩ : ∃ ao1 c1, v1 = .slice ao1 n c1 := by
    rcases ho1 with ⟨rfl, rfl⟩ | ⟨g, rfl, _⟩
    · exact ⟨_, _, rfl⟩
    · exact ⟨_, _, rfl⟩
  clear ho1 hB1 hn1
  subst hv1
  go_wp2_with fail
  refine (zz_any _ n f low pend w1 w.heap.size HB1.out.size HO1.out HF.out (by omega) (by omega) hp).mono ?_
  rintro e w2 ⟨out, outLow, n2, f2, rfl, hout, hg2⟩
  have HOut : Hid (OutN f n low w.heap.size w2 out outLow n2 f2) := hout
  have HB2 : Hid (Below w.heap.size w1 w2) := below_of_grown HO1.out HB1.out.size hg2
  obtain ⟨hn2, hl2⟩ : n2 ≤ 200000 ∧ (-2147483648 ≤ outLow ∧ outLow ≤ 2147483648) := by
    obtain ⟨_, N, F3, F, L, hNR, rfl, _, h⟩ := hout
    have a := hNR.ln
    have b := hNR.top
    rcases h with ⟨_, _, rfl⟩ | ⟨_, rfl, _⟩
    · exact ⟨by omega, by omega⟩
    · exact ⟨by omega, by omega⟩
  obtain ⟨ao2, c2, hv2⟩ : ∃ ao2 c2, out = .slice ao2 n2 c2 := by
    obtain ⟨a, c, h, _⟩ := hout.reads
    exact ⟨a, c, h⟩
  clear hout hg2
  subst hv2
  go_wp2_with fail
  refine (clone_any _ n2 f2 w2 HOut.out.reads (by omega)).mono ?_
  rintro e w3 ⟨v3, rfl, ho3, hn3, hB3⟩
  have HO3 : Hid (Own w3 w2.heap.size v3 n2 f2) := ho3
  have HB3 : Hid (Below w2.heap.size w2 w3) := hB3
  have HN3 : Hid (nilB v3 = nilB (.slice ao2 n2 c2)) := hn3
  obtain ⟨ao3, c3, hv3⟩ : ∃ ao3 c3, v3 = .slice ao3 n2 c3 := by
    rcases ho3 with ⟨rfl, rfl⟩ | ⟨g, rfl, _⟩
    · exact ⟨_, _, rfl⟩
    · exact ⟨_, _, rfl⟩
  clear ho3 hB3 hn3
  subst hv3
  have HF2 : Hid (∀ i, i < n2 → -4611686018427387904 ≤ f2 i ∧ f2 i ≤ 4611686018427387904) := by
    obtain ⟨_, N, F3, F, L, hNR, rfl, rfl, h⟩ := HOut.out
    exact hNR.bounds
  go_wp2_with fail
  refine (zz_any _ n2 f2 outLow 1 w3 w2.heap.size HB3.out.size HO3.out HF2.out (by omega) hl2 rfl).mono ?_
  rintro e w4 ⟨out2, outLow2, n4, f4, rfl, hout4, hg4⟩
  have HB4 : Hid (Below w2.heap.size w3 w4) := below_of_grown HO3.out HB3.out.size hg4
  have HR : Hid (Reads .i64 w4 (.slice ao2 n2 c2) n2 f2) := by
    have h1 := HOut.out.reads.below (HOut.out.reads.under) HB3.out
    exact h1.below (HOut.out.reads.under) HB4.out
  have HBz : Hid (Below w.heap.size w w4) := ((HB1.out.trans HB2.out).trans (HB3.out.mono (Nat.le_trans HB1.out.size HB2.out.size))).trans (HB4.out.mono (Nat.le_trans HB1.out.size HB2.out.size))
  obtain ⟨hlow2, hnn, hff, hnl⟩ : outLow2 = outLow ∧ n4 = n2 ∧ (∀ i, i < n2 → f4 i = f2 i) ∧ nilB out2 = ao2.isNone := by
    have hout := HOut.out
    obtain ⟨_, N, F3, F, L, hNR, hn, hfe, h⟩ := hout
    obtain ⟨_, N', G, F', L', hNR', hn', hfe', h'⟩ := hout4
    rcases h with ⟨hFL, hnil2, hlo⟩ | ⟨hFL, hlo, g', c, he, _⟩
    · have h0 : n2 = 0 := by omega
      subst h0
      have hz := hNR'.zero rfl
      rcases h' with ⟨_, hn2', hl'⟩ | ⟨h, _⟩
      · refine ⟨by rw [hl', hlo], by omega, fun i hi => absurd hi (by omega), ?_⟩
        rw [hn2']
        simp only [Value.slice.injEq] at hnil2
        rw [hnil2.1]; rfl
      · omega
    · subst hn hfe
      obtain ⟨e1, e2, e3⟩ := hNR.again hFL hNR'
      subst e1 e2
      rcases h' with ⟨h, _⟩ | ⟨_, hl', g'', c'', he', _⟩
      · omega
      · refine ⟨by rw [hl']; simp, by omega, fun i hi => ?_, ?_⟩
        · rw [hfe']; simp only [Nat.zero_add]; exact e3 i hi
        · simp only [Value.slice.injEq] at he
          rw [he', he.1]; rfl
  have HR4 : Hid (Reads .i64 w4 out2 n2 f4) := by have := hout4.reads; rwa [hnn] at this
  obtain ⟨ao4, c4, hv4⟩ : ∃ ao4 c4, out2 = .slice ao4 n2 c4 := by
    obtain ⟨a, c, h, _⟩ := HR4.out
    exact ⟨a, c, h⟩
  subst hv4
  have hnl' : ao4.isNone = ao2.isNone := hnl
  have HFF : Hid (∀ i, i < n2 → f4 i = f2 i) := hff
  clear hnl hff hout4 hg4 hnn
  subst hlow2
  go_wp2_with fail
  refine (eq_any _ _ n2 f4 f2 w4 HR4.out HR.out (by omega) HFF.out).mono ?_
  rintro e w5 ⟨rfl, m, rfl⟩
  go_wp2
  go_ret
  exact ⟨rfl, HBz.out.os, HBz.out.tape, HBz.out.output, HBz.out.size, HBz.out.block⟩

end Go.Proofs.Qxb6603934a.Norm
