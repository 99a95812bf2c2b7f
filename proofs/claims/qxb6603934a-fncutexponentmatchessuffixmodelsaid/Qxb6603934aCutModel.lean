import Derived.Test.Qxb6603934aRows
import Derived.WalkKit
import Derived.WalkSpells
import Derived.WalkLawsBesides
import Derived.PlainAid
import Derived.Handy
import Derived.Test.Qxb6603934aCutPlain
import Derived.Test.Qxb6603934aCutWalks
namespace Go.Proofs.Qxb6603934a.Cut
open Go.RowKit Go.PlainAid Go.Proofs.Qxb6603934a.Scan

theorem isDigit_yes (c : Int) (w : World) (h : 48 ≤ c ∧ c ≤ 57) : Calls Try.prog 25 #[.int .u8 c] w fun e w' => e = .returned (.bool true) ∧ w' = w := by
  go_enter Try.func25, Try.ntmps25
  go_wp2
  go_ret
  exact ⟨rfl, rfl⟩
theorem isDigit_no (c : Int) (w : World) (h : ¬ (48 ≤ c ∧ c ≤ 57)) : Calls Try.prog 25 #[.int .u8 c] w fun e w' => e = .returned (.bool false) ∧ w' = w := by
  by_cases h1 : 48 ≤ c
  · go_enter Try.func25, Try.ntmps25
    go_wp2
    go_ret
    exact ⟨by simp; omega, rfl⟩
  · go_enter Try.func25, Try.ntmps25
    go_wp2
    go_ret
    exact ⟨rfl, rfl⟩

/-! The plain side of the model. -/
/-- Exactly m digits end the n entries of f. -/
def Run (f : Nat → Int) (n m : Nat) : Prop := m ≤ n ∧ (∀ i, i < m → dig (f (n - 1 - i))) ∧ (m = n ∨ ¬ dig (f (n - 1 - m)))

theorem run_dig {f : Nat → Int} {n m : Nat} (hm : m ≤ n) (h : ∀ i, i < m → dig (f (n - 1 - i))) : ∀ i, i < m → dig (f (n - m + i)) := by
  intro i hi
  have := h (m - 1 - i) (by omega)
  rw [show n - 1 - (m - 1 - i) = n - m + i by omega] at this
  exact this

theorem four_no {f : Nat → Int} {n : Nat} (h : ∀ i, i < 4 → dig (f (n - 1 - i))) : CutR f n n 0 := by
  refine cutR_no fun e neg m hs => ?_
  obtain ⟨a, b, c, d, g⟩ := hs
  have hx := h m (by omega)
  unfold dig at hx
  unfold isE at a
  rcases g with ⟨g, _⟩ | ⟨g, g2⟩
  · rw [show n - 1 - m = e by omega] at hx; omega
  · rw [show n - 1 - m = e + 1 by omega] at hx; omega

theorem run_zero {f : Nat → Int} {n : Nat} (h : Run f n 0) : CutR f n n 0 := by
  refine cutR_no fun e neg m hs => ?_
  obtain ⟨a, b, c, d, g⟩ := hs
  obtain ⟨_, _, h⟩ := h
  have hx := d (m - 1) (by omega)
  rw [show n - m + (m - 1) = n - 1 - 0 by omega] at hx
  rcases h with h | h
  · omega
  · exact h hx

theorem run_m {f : Nat → Int} {n m e m' : Nat} {neg : Bool} (h : Run f n m) (hs : Shape f n e neg m') : m' = m := by
  obtain ⟨a, b, c, d, g⟩ := hs
  obtain ⟨h1, h2, h3⟩ := h
  apply Classical.byContradiction
  intro hne
  by_cases hlt : m < m'
  · have hx := d (m' - m - 1) (by omega)
    rw [show n - m' + (m' - m - 1) = n - 1 - m by omega] at hx
    rcases h3 with h3 | h3
    · omega
    · exact h3 hx
  · have hx := h2 m' (by omega)
    unfold dig at hx
    unfold isE at a
    rcases g with ⟨g, _⟩ | ⟨g, g2⟩
    · rw [show n - 1 - m' = e by omega] at hx; omega
    · rw [show n - 1 - m' = e + 1 by omega] at hx; omega

theorem run_all {f : Nat → Int} {n m : Nat} (h : Run f n m) (hp : n = m) : CutR f n n 0 := by
  refine cutR_no fun e neg m' hs => ?_
  have e1 := run_m h hs
  obtain ⟨a, b, c, d, g⟩ := hs
  omega

/-- No sign stands before the digits. -/
theorem run_bare_no {f : Nat → Int} {n m p : Nat} (h : Run f n m) (hp : n = p + 1 + m) (h43 : f p ≠ 43) (h45 : f p ≠ 45) (hE : ¬ isE (f p)) : CutR f n n 0 := by
  refine cutR_no fun e neg m' hs => ?_
  have e1 := run_m h hs
  obtain ⟨a, b, c, d, g⟩ := hs
  rcases g with ⟨g, _⟩ | ⟨g, g2⟩
  · have : e = p := by omega
    subst this; exact hE a
  · have : e + 1 = p := by omega
    rw [this] at g2; omega
theorem run_bare_yes {f : Nat → Int} {n m p : Nat} (h : Run f n m) (hm : 1 ≤ m) (hm3 : m ≤ 3) (hp : n = p + 1 + m) (hE : isE (f p)) : CutR f n p (val (fun i => f (p + 1 + i)) m) := by
  refine Or.inl ⟨p, false, m, ⟨hE, hm, hm3, run_dig h.1 h.2.1, Or.inl ⟨by omega, rfl⟩⟩, rfl, ?_⟩
  rw [show n - m = p + 1 by omega]; rfl
theorem run_sign_no {f : Nat → Int} {n m p : Nat} (h : Run f n m) (hp : n = p + 1 + m) (hs : f p = 43 ∨ f p = 45) (hE : ∀ q, p = q + 1 → ¬ isE (f q)) : CutR f n n 0 := by
  refine cutR_no fun e neg m' hsh => ?_
  have e1 := run_m h hsh
  obtain ⟨a, b, c, d, g⟩ := hsh
  rcases g with ⟨g, _⟩ | ⟨g, g2⟩
  · have : e = p := by omega
    subst this; unfold isE at a; omega
  · exact hE e (by omega) a
theorem run_sign_yes {f : Nat → Int} {n m p : Nat} {neg : Bool} (h : Run f n m) (hm : 1 ≤ m) (hm3 : m ≤ 3) (hp : n = p + 2 + m) (hs : (f (p + 1) = 43 ∧ neg = false) ∨ (f (p + 1) = 45 ∧ neg = true)) (hE : isE (f p)) :
    CutR f n p (sgn neg (val (fun i => f (p + 2 + i)) m)) := by
  refine Or.inl ⟨p, neg, m, ⟨hE, hm, hm3, run_dig h.1 h.2.1, Or.inr ⟨by omega, hs⟩⟩, rfl, ?_⟩
  rw [show n - m = p + 2 by omega]

set_option maxHeartbeats 4000000 in
theorem model_any (s : ByteArray) (w : World) (hs : s.size ≤ maxLen) (h20 : s.size ≤ 1048576) :
    Calls Try.prog 10 #[.string s] w (GaveC s w) := by
  unfold maxLen at hs
  have hb := get_bt s
  go_enter Try.func10, Try.ntmps10
  go_wp2
  go_loop [4] (fun i => ∃ m : Nat, m ≤ 4 ∧ m ≤ s.size ∧ i = .int .i64 m ∧ ∀ i, i < m → dig (bt s (s.size - 1 - i))) (fun i => 5 - (intOf i).toNat)
  case atStart => exact ⟨0, by omega, by omega, rfl, fun i h => absurd h (by omega)⟩
  case round =>
    obtain ⟨m, hm4, hmn, rfl, hD0⟩ := hrel
    by_cases c4 : m < 4
    · by_cases cn : m < s.size
      · have hix : s.size - 1 - m < s.size := by omega
        by_cases cd : 48 ≤ bt s (s.size - 1 - m) ∧ bt s (s.size - 1 - m) ≤ 57
        · go_wp2_with (go_at_call 25; refine (isDigit_yes _ _ cd).mono ?_; rintro e w' ⟨rfl, rfl⟩)
          go_round
          case rel => exact ⟨m + 1, by omega, by omega, by go_num, fun i h => if e : i = m then by subst e; exact cd else hD0 i (by omega)⟩
          case measure => simp [intOf]; omega
        · have hR : Run (bt s) s.size m := ⟨by omega, hD0, Or.inr cd⟩
          by_cases h0 : m = 0
          · subst h0
            go_wp2_with (go_at_call 25; refine (isDigit_no _ _ cd).mono ?_; rintro e w' ⟨rfl, rfl⟩)
            go_ret2
            exact gaveC_no (run_zero hR)
          · obtain ⟨p, hp⟩ : ∃ p, s.size = p + 1 + m := ⟨s.size - m - 1, by omega⟩
            have hpi : ((s.size : Int) - (m : Int)) = ((p + 1 : Nat) : Int) := by omega
            have hm0 : ((m : Int) == 0) = false := beq_eq_false_iff_ne.2 (by omega)
            have HP : Hid (s.size = p + 1 + m) := hp
            have hp1 : p + 1 + m ≤ s.size := by omega
            have hp2 : s.size ≤ p + 1 + m := by omega
            have hpz : p < s.size := by omega
            have hD : ∀ t, t < m → dig (bt s (p + 1 + t)) := fun t h => by
              have := run_dig hmn hD0 t h
              rwa [show s.size - m = p + 1 by omega] at this
            clear hp
            go_wp2_with (go_at_call 25; refine (isDigit_no _ _ cd).mono ?_; rintro e w' ⟨rfl, rfl⟩)
            go_loop [6, 7] (fun v i => ∃ k : Nat, k ≤ m ∧ i = .int .i64 ((p + 1 : Nat) + (k : Int)) ∧ v = .int .i32 (val (fun i => bt s (p + 1 + i)) k)) (fun _ i => s.size - (intOf i).toNat)
            case atStart => exact ⟨0, Nat.zero_le _, by go_num, rfl⟩
            case round =>
              obtain ⟨k, hk, rfl, rfl⟩ := hrel
              have v1 := val_bound3 (f := fun i => bt s (p + 1 + i)) (k := k) (by omega) (fun t h => hD t (by omega))
              by_cases hlt2 : k < m
              · have v3 := hD k hlt2
                unfold dig at v3
                have hki : p + 1 + k < s.size := by omega
                go_wp2
                go_round
                case rel => exact ⟨k + 1, by omega, by go_num, rfl⟩
                case measure => simp [intOf]; omega
              · have hkm : k = m := by omega
                subst hkm
                have hend : ¬ ((p + 1 : Nat) : Int) + (k : Int) < s.size := by omega
                by_cases e43 : bt s p = 43
                · have hsg : bt s p = 43 := e43
                  have e43' : (bt s p == 43) = true := beq_iff_eq.2 e43
                  have e45' : (bt s p == 45) = false := beq_eq_false_iff_ne.2 (by omega)
                  by_cases hp0 : p = 0
                  · subst hp0
                    go_wp2
                    go_ret2
                    exact gaveC_no (run_sign_no hR (by omega) (Or.inl hsg) (fun q e => absurd e (by omega)))
                  · obtain ⟨q, rfl⟩ : ∃ q, p = q + 1 := ⟨p - 1, by omega⟩
                    have hq : q < s.size := by omega
                    by_cases e69 : bt s q = 69
                    · have e69' : (bt s q == 69) = true := beq_iff_eq.2 e69
                      have hC : Hid (CutR (bt s) s.size q (sgn false (val (fun i => bt s (q + 1 + 1 + i)) k))) := run_sign_yes hR (by omega) (by omega) (by omega) (Or.inl ⟨hsg, rfl⟩) (Or.inl e69)
                      go_wp2
                      go_ret2
                      exact ⟨q, _, rfl, hC.out, rfl⟩
                    · have e69' : (bt s q == 69) = false := beq_eq_false_iff_ne.2 e69
                      by_cases e101 : bt s q = 101
                      · have e101' : (bt s q == 101) = true := beq_iff_eq.2 e101
                        have hC : Hid (CutR (bt s) s.size q (sgn false (val (fun i => bt s (q + 1 + 1 + i)) k))) := run_sign_yes hR (by omega) (by omega) (by omega) (Or.inl ⟨hsg, rfl⟩) (Or.inr e101)
                        go_wp2
                        go_ret2
                        exact ⟨q, _, rfl, hC.out, rfl⟩
                      · have e101' : (bt s q == 101) = false := beq_eq_false_iff_ne.2 e101
                        go_wp2
                        go_ret2
                        exact gaveC_no (run_sign_no hR (by omega) (Or.inl hsg) (fun q2 e h => by have e2 : q2 = q := (by omega); rw [e2] at h; unfold isE at h; omega))
                · have e43' : (bt s p == 43) = false := beq_eq_false_iff_ne.2 e43
                  by_cases e45 : bt s p = 45
                  · have hsg : bt s p = 45 := e45
                    have e45' : (bt s p == 45) = true := beq_iff_eq.2 e45
                    by_cases hp0 : p = 0
                    · subst hp0
                      go_wp2
                      go_ret2
                      exact gaveC_no (run_sign_no hR (by omega) (Or.inr hsg) (fun q e => absurd e (by omega)))
                    · obtain ⟨q, rfl⟩ : ∃ q, p = q + 1 := ⟨p - 1, by omega⟩
                      have hq : q < s.size := by omega
                      by_cases e69 : bt s q = 69
                      · have e69' : (bt s q == 69) = true := beq_iff_eq.2 e69
                        have hC : Hid (CutR (bt s) s.size q (sgn true (val (fun i => bt s (q + 1 + 1 + i)) k))) := run_sign_yes hR (by omega) (by omega) (by omega) (Or.inr ⟨hsg, rfl⟩) (Or.inl e69)
                        go_wp2
                        go_ret2
                        exact ⟨q, _, rfl, hC.out, rfl⟩
                      · have e69' : (bt s q == 69) = false := beq_eq_false_iff_ne.2 e69
                        by_cases e101 : bt s q = 101
                        · have e101' : (bt s q == 101) = true := beq_iff_eq.2 e101
                          have hC : Hid (CutR (bt s) s.size q (sgn true (val (fun i => bt s (q + 1 + 1 + i)) k))) := run_sign_yes hR (by omega) (by omega) (by omega) (Or.inr ⟨hsg, rfl⟩) (Or.inr e101)
                          go_wp2
                          go_ret2
                          exact ⟨q, _, rfl, hC.out, rfl⟩
                        · have e101' : (bt s q == 101) = false := beq_eq_false_iff_ne.2 e101
                          go_wp2
                          go_ret2
                          exact gaveC_no (run_sign_no hR (by omega) (Or.inr hsg) (fun q2 e h => by have e2 : q2 = q := (by omega); rw [e2] at h; unfold isE at h; omega))
                  · have e45' : (bt s p == 45) = false := beq_eq_false_iff_ne.2 e45
                    by_cases e69 : bt s p = 69
                    · have e69' : (bt s p == 69) = true := beq_iff_eq.2 e69
                      have hC : Hid (CutR (bt s) s.size p (val (fun i => bt s (p + 1 + i)) k)) := run_bare_yes hR (by omega) (by omega) (by omega) (Or.inl e69)
                      go_wp2
                      go_ret2
                      exact ⟨p, _, rfl, hC.out, rfl⟩
                    · have e69' : (bt s p == 69) = false := beq_eq_false_iff_ne.2 e69
                      by_cases e101 : bt s p = 101
                      · have e101' : (bt s p == 101) = true := beq_iff_eq.2 e101
                        have hC : Hid (CutR (bt s) s.size p (val (fun i => bt s (p + 1 + i)) k)) := run_bare_yes hR (by omega) (by omega) (by omega) (Or.inr e101)
                        go_wp2
                        go_ret2
                        exact ⟨p, _, rfl, hC.out, rfl⟩
                      · have e101' : (bt s p == 101) = false := beq_eq_false_iff_ne.2 e101
                        go_wp2
                        go_ret2
                        exact gaveC_no (run_bare_no hR (by omega) e43 e45 (by unfold isE; omega))
      · have hR : Run (bt s) s.size m := ⟨by omega, hD0, Or.inl (by omega)⟩
        have hms : m = s.size := by omega
        by_cases h0 : m = 0
        · subst h0
          have hsz : ¬ 0 < s.size := by omega
          clear hms
          go_wp2
          go_ret2
          exact gaveC_no (run_zero hR)
        · obtain ⟨z, hz⟩ : ∃ z : Nat, z ≤ 0 := ⟨0, by omega⟩
          have HM : Hid (s.size = m) := hms.symm
          have hpi : ((s.size : Int) - (m : Int)) = (z : Int) := by omega
          have hm0 : ((m : Int) == 0) = false := beq_eq_false_iff_ne.2 (by omega)
          have hp2 : s.size ≤ m := by omega
          have hD : ∀ t, t < m → dig (bt s (z + t)) := fun t h => by
            have := run_dig hmn hD0 t h
            rwa [show s.size - m = z by omega] at this
          clear hms
          go_wp2
          go_loop [6, 7] (fun v i => ∃ k : Nat, k ≤ m ∧ i = .int .i64 ((z : Nat) + (k : Int)) ∧ v = .int .i32 (val (fun i => bt s (z + i)) k)) (fun _ i => s.size - (intOf i).toNat)
          case atStart => exact ⟨0, Nat.zero_le _, by go_num, rfl⟩
          case round =>
            obtain ⟨k, hk, rfl, rfl⟩ := hrel
            have v1 := val_bound3 (f := fun i => bt s (z + i)) (k := k) (by omega) (fun t h => hD t (by omega))
            by_cases hlt2 : k < m
            · have v3 := hD k hlt2
              unfold dig at v3
              have hki : z + k < s.size := by omega
              go_wp2
              go_round
              case rel => exact ⟨k + 1, by omega, by go_num, rfl⟩
              case measure => simp [intOf]; omega
            · have hkm : k = m := by omega
              subst hkm
              have hend : ¬ ((z : Nat) : Int) + (k : Int) < s.size := by omega
              go_wp2
              go_ret2
              exact gaveC_no (run_all hR HM.out)
    · go_wp2
      go_ret2
      exact gaveC_no (four_no (fun i h => hD0 i (by omega)))
end Go.Proofs.Qxb6603934a.Cut
