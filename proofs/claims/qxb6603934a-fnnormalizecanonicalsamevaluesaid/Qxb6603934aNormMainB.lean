import Derived.Test.Qxb6603934aNormMain
namespace Go.Proofs.Qxb6603934a.Norm
open Go.RowKit Go.Deep

set_option maxHeartbeats 2000000 in
theorem norm_neg (w : World) (B g cap n : Nat) (f : Nat → Int) (low pend : Int) (hW : Wide w B (.slice (some ⟨g, 0, none⟩) n cap) low pend)
    (hA : Arr w g 2 cap n (fun i => .int .i64 (f i))) (hcap : cap ≤ maxLen) (hf : ∀ i, i < n → -4611686018427387904 ≤ f i ∧ f i ≤ 4611686018427387904) (hn0 : 0 < n) (hn : n ≤ 200000)
    (hlow : -2147483648 ≤ low ∧ low ≤ 2147483648) (hp : (pend == 0) = false) (hc : cy f n < 0) :
    Calls Try.prog 27 #[.pointer (some ⟨B, 0, none⟩)] w (Normed B g n f low w) := by
  have c2 := hW.cell2
  have fz := hW.frozen 2
  have hne := hW.ne hA
  have hcb := cy_bound hf n (Nat.le_refl _)
  have hcd : decide (cy f n < 0) = true := decide_eq_true hc
  obtain ⟨i0, hi, hz0, hz1, hz2⟩ := info_parts info2
  obtain ⟨W1, hW1⟩ : ∃ W1, W1 = w.setCell ⟨B, 2, none⟩ (.int .i64 0) := ⟨_, rfl⟩
  have hL1 : Limbs B g low w W1 g cap n f := by rw [hW1]; exact ⟨hW.set2 0, hA.setOther hne _, hcap, Or.inl rfl, (Kept.refl B g w).setB 2 _⟩
  have H29 : Hid (Calls Try.prog 29 #[.pointer (some ⟨B, 0, none⟩)] W1 fun e w' => e = .returned (.int .i64 (cy f n)) ∧ Turned g cap n (lm f) W1 w') := carry_any W1 B g cap n f hL1.wide.cell0 hL1.arr hne hf (by omega)
  have HL1 : Hid (Limbs B g low w W1 g cap n f) := hL1
  have HW1 : Hid (W1 = w.setCell ⟨B, 2, none⟩ (.int .i64 0)) := hW1
  have HF : Hid (∀ i, i < n → -4611686018427387904 ≤ f i ∧ f i ≤ 4611686018427387904) := hf
  clear hW1 hL1 hA hW hf
  go_enter Try.func27, Try.ntmps27
  go_wp2_with fail
  rw [← HW1.out]
  refine H29.out.mono ?_
  rintro e w2 ⟨rfl, hT⟩
  have HL2 : Hid (Limbs B g low w w2 g cap n (lm f)) := HL1.out.turn hT
  clear hT
  have H30 : Hid (Calls Try.prog 30 #[.pointer (some ⟨B, 0, none⟩)] w2 fun e w' => e = .returned (.tuple #[]) ∧ Turned g cap n (fun i => -lm f i) w2 w') :=
    negate_any w2 B g cap n (lm f) HL2.out.wide.cell0 HL2.out.arr HL2.out.ne (fun i h => by have := lm_range f i; omega) (by omega)
  go_wp2_with fail
  refine H30.out.mono ?_
  rintro e w3 ⟨rfl, hT3⟩
  obtain ⟨h, hh⟩ : ∃ h : Nat → Int, h = fun i => -lm f i := ⟨_, rfl⟩
  rw [← hh] at hT3
  have HL3' : Hid (Limbs B g low w w3 g cap n h) := HL2.out.turn hT3
  have Hh : Hid (∀ i, i < n → -999999999 ≤ h i ∧ h i ≤ 0) := by rw [hh]; exact fun i _ => by have := lm_range f i; show -999999999 ≤ -lm f i ∧ -lm f i ≤ 0; omega
  have H29b : Hid (Calls Try.prog 29 #[.pointer (some ⟨B, 0, none⟩)] w3 fun e w' => e = .returned (.int .i64 (cy h n)) ∧ Turned g cap n (lm h) w3 w') :=
    carry_any w3 B g cap n h HL3'.out.wide.cell0 HL3'.out.arr HL3'.out.ne (fun i hi => by have := Hh.out i hi; omega) (by omega)
  have hcs := cy_small Hh.out n (Nat.le_refl _)
  have HHH : Hid (h = fun i => -lm f i) := hh
  clear hT3 hh
  go_wp2_with fail
  refine H29b.out.mono ?_
  rintro e w4 ⟨rfl, hT4⟩
  have HL4 : Hid (Limbs B g low w w4 g cap n (lm h)) := HL3'.out.turn hT4
  clear hT4
  go_wp2_with fail
  have HC : Hid (∃ C, cy h n - cy f n = C ∧ 0 ≤ C ∧ C ≤ 6000000000 ∧ hv f 0 n = -(hv (lm h) 0 n + 1000000000 ^ n * C)) := ⟨_, rfl, by omega, by omega, by
    have e1 := hv_carry0 f n
    have e2 := hv_carry0 h n
    have e3 := hv_neg (lm f) n 0
    rw [← HHH.out] at e3
    rw [Int.mul_sub, e1]
    omega⟩
  obtain ⟨f1, hf1⟩ : ∃ f1, f1 = lm h := ⟨_, rfl⟩
  have Hf1 : Hid (∀ i, 0 ≤ f1 i ∧ f1 i ≤ 999999999) := by rw [hf1]; exact lm_range h
  rw [← hf1] at HL4 HC
  obtain ⟨C, hCe, hC0, hC1, hCv⟩ := HC.out
  rw [hCe]
  have HCv : Hid (hv f 0 n = -(hv f1 0 n + 1000000000 ^ n * C)) := hCv
  have HL2' : Hid (Limbs B g low w w4 g cap n f1) := HL4
  clear hCv HC hCe hcd hcb hc hf1 hcs
  go_loopw [2] (fun cc wr => ∃ (c : Int) (d g' cap' : Nat) (F : Nat → Int), cc = .int .i64 c ∧ Put n f1 C d F c ∧ Limbs B g low w wr g' cap' (n + d) F) (fun cc _ => (intOf cc).toNat)
  case atStart => exact ⟨C, 0, g, cap, f1, rfl, ⟨fun _ _ => rfl, Or.inl ⟨rfl, rfl⟩⟩, HL2'.out⟩
  case round =>
    obtain ⟨c, d, g', cap', F, rfl, hP, hL⟩ := hrel
    obtain ⟨p1, p2, p3, p4⟩ := put_bound hP hC0 hC1
    have q0 := hL.wide.cell0
    have q1 := hL.wide.frozen 0
    have q2 := hL.wide.lt
    have HL : Hid (Limbs B g low w wr g' cap' (n + d) F) := hL
    have HP : Hid (Put n f1 C d F c) := hP
    clear hL hP
    by_cases hc0 : 0 < c
    · have hd1 := p4 hc0
      go_wp2_with (at_builtin; refine wpList_append_arr _ rfl (.tmp 33) (.tmp 36) 29 rfl 2 i0 (.int .i64 0) 1 8 Try.underlying29 hi hz0 hz1 hz2 rfl g' (n + d) cap' (fun i => .int .i64 (F i)) rfl ?ca ?cb ⟨wr.heap.size, 0, none⟩ 1 1 [.int .i64 (c % 1000000000)] rfl rfl ?cc ?cd ?ce ?cf ?_)
      case ca => simp only [Nat.mul_one]; exact HL.out.arr.alloc _
      case cb => exact HL.out.cap
      case cc =>
        intro j u hj
        match j, hj with
        | 0, hj => simp at hj; subst hj; simp [Addr.add]
      case cd => intro u hu; simp at hu; subst hu; rfl
      case ce => unfold maxLen; omega
      case cf => omega
      intro v' w1 hap
      obtain ⟨g'', cap'', hv', hW1, hL'⟩ := HL.out.append hap
      have HL' : Hid (Limbs B g low w (w1.setCell ⟨B, 0, none⟩ v') g'' cap'' (n + d + 1) (fun i => if i < n + d then F i else c % 1000000000)) := hL'
      have HP' := put_step HP.out hC0 hC1 hc0
      have z0 := hW1.cell0
      have z1 := hW1.frozen 0
      clear hap hL' hW1
      rw [hv'] at HL' ⊢
      go_wp2
      go_roundw
      case rel => exact ⟨c / 1000000000, d + 1, g'', cap'', _, rfl, HP', HL'.out⟩
      case measure => simp [intOf]; omega
    · have hcz : c = 0 := by omega
      subst hcz
      have H30 : Hid (Calls Try.prog 30 #[.pointer (some ⟨B, 0, none⟩)] wr fun e w' => e = .returned (.tuple #[]) ∧ Turned g' cap' (n + d) (fun i => -F i) wr w') :=
        negate_any wr B g' cap' (n + d) F q0 HL.out.arr HL.out.ne (fun i h => by have := put_range HP.out Hf1.out i h; omega) (by omega)
      go_wp2_with fail
      refine H30.out.mono ?_
      rintro e wr5 ⟨rfl, hT5⟩
      obtain ⟨F3, hF3⟩ : ∃ F3 : Nat → Int, F3 = fun i => -F i := ⟨_, rfl⟩
      have HL3 : Hid (Limbs B g low w wr5 g' cap' (n + d) F3) := by rw [hF3]; exact HL.out.turn hT5
      have HV3 : Hid (hv F3 0 (n + d) = hv f 0 n) := by show _ = _; rw [HCv.out, hF3, hv_neg, put_val HP.out hC0]
      have HS3 : Hid ((∀ i, i < n + d → 0 ≤ F3 i ∧ F3 i ≤ 999999999) ∨ (∀ i, i < n + d → -999999999 ≤ F3 i ∧ F3 i ≤ 0)) := by
        rw [hF3]; exact Or.inr (fun i h => by have := put_range HP.out Hf1.out i h; show -999999999 ≤ -F i ∧ -F i ≤ 0; omega)
      clear hF3 hT5
      have q5 := HL3.out.wide.cell0
      go_wp2
      go_loop [4] (fun i => ∃ L : Nat, L ≤ n + d ∧ i = .int .i64 L ∧ ∀ i, L ≤ i → i < n + d → F3 i = 0) (fun i => (intOf i).toNat)
      case atStart => exact ⟨n + d, Nat.le_refl _, by go_num, fun i h1 h2 => absurd h1 (by omega)⟩
      case round =>
        obtain ⟨L, hL, rfl, hhi⟩ := hrel
        have HH : Hid (∀ i, L ≤ i → i < n + d → F3 i = 0) := hhi
        clear hhi
        by_cases hL0 : 0 < L
        · obtain ⟨l, rfl⟩ : ∃ l, L = l + 1 := ⟨L - 1, by omega⟩
          have ck := HL3.out.arr.cell (show l < n + d by omega)
          cases hz : (F3 l == 0)
          · go_wp2
            go_loop [5] (fun i => ∃ k : Nat, k ≤ l ∧ i = .int .i64 k ∧ ∀ i, i < k → F3 i = 0) (fun i => l + 1 - (intOf i).toNat)
            case atStart => exact ⟨0, by omega, rfl, fun i h => absurd h (by omega)⟩
            case round =>
              obtain ⟨k, hk, rfl, hlo⟩ := hrel
              have HLO : Hid (∀ i, i < k → F3 i = 0) := hlo
              clear hlo
              have ck2 := HL3.out.arr.cell (show k < n + d by omega)
              cases hz2 : (F3 k == 0)
              · have r1 := HL3.out.wide.cell1
                have r0 := HL3.out.wide.frozen 0
                have r2 := HL3.out.wide.frozen 1
                have hcle := HL3.out.arr.le
                have hne2 : ((k : Int) == ((l : Int) + 1)) = false := beq_eq_false_iff_ne.2 (by omega)
                go_wp2
                go_region
                go_wp2
                go_end0
                exact ⟨rfl, n + d, F3, k, l + 1, nr_some (by omega) HV3.out HS3.out hk hL HH.out HLO.out hz hz2, ((HL3.out.kept.setB 0 _).setB 1 _).drew, Or.inr ⟨by omega, g', cap', HL3.out.row,
                  (((HL3.out.arr.setOther HL3.out.ne _).setOther HL3.out.ne _).drew), ((HL3.out.wide.set0 _).set1 _).drew⟩⟩
              · go_wp2
                go_round
                case rel => exact ⟨k + 1, Nat.lt_of_le_of_ne hk (fun e => by subst e; rw [hz] at hz2; exact absurd hz2 (by simp)), by go_num, fun i h => if e : i = k then by subst e; exact eq_of_beq hz2 else HLO.out i (by omega)⟩
                case measure => simp [intOf]; omega
          · go_wp2
            go_round
            case rel => exact ⟨l, by omega, by go_num, fun i h1 h2 => if e : i = l then by subst e; exact eq_of_beq hz else HH.out i (by omega) h2⟩
            case measure => simp [intOf]
        · have hLz : L = 0 := by omega
          subst hLz
          have r1 := HL3.out.wide.cell1
          have r0 := HL3.out.wide.frozen 0
          have r2 := HL3.out.wide.frozen 1
          have hcle := HL3.out.arr.le
          go_wp2
          refine wp_loop_rounds 1 ?_
          rw [rounds_succ]
          go_wp2
          go_region
          go_wp2
          go_end0
          exact ⟨rfl, n + d, F3, 0, 0, nr_none (by omega) HV3.out HS3.out HH.out, ((((HL3.out.kept.setB 0 _).setB 1 _).setB 0 _).setB 1 _).drew, Or.inl ⟨rfl, ((((HL3.out.wide.set0 _).set1 _).set0 _).set1 _).drew⟩⟩
end Go.Proofs.Qxb6603934a.Norm
