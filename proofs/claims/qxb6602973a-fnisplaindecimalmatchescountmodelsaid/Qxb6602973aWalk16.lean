import Derived.Test.Qxb6602973aRows
import Derived.WalkKit
import Derived.WalkSpells
import Derived.WalkLawsBesides
import Derived.PlainAid
import Derived.Handy
import Derived.Deep.DeepCutAuto
import Derived.Test.Qxb6602973aDec
namespace Go.Proofs.Qxb6602973a.Dec
open Go.RowKit Go.PlainAid

theorem isDigit_yes (c : Int) (w : World) (h : 48 ≤ c ∧ c ≤ 57) : Calls Try.prog 19 #[.int .u8 c] w fun e w' => e = .returned (.bool true) ∧ w' = w := by
  go_enter Try.func19, Try.ntmps19
  go_wp2
  go_ret
  exact ⟨rfl, rfl⟩
theorem isDigit_no (c : Int) (w : World) (h : ¬ (48 ≤ c ∧ c ≤ 57)) : Calls Try.prog 19 #[.int .u8 c] w fun e w' => e = .returned (.bool false) ∧ w' = w := by
  by_cases h1 : 48 ≤ c
  · go_enter Try.func19, Try.ntmps19
    go_wp2
    go_ret
    exact ⟨by simp; omega, rfl⟩
  · go_enter Try.func19, Try.ntmps19
    go_wp2
    go_ret
    exact ⟨rfl, rfl⟩

def Gave (f : Nat → Int) (n : Nat) (mp : Int) (w : World) (e : Ending) (w' : World) : Prop :=
  ∃ ok, e = .returned (.bool ok) ∧ Ans f n mp ok ∧ w' = w

theorem part (s : ByteArray) (o : Nat) : (s.extract o s.size).size = s.size - o ∧ ∀ t, t < s.size - o → bt (s.extract o s.size) t = bt s (o + t) :=
  ⟨by simp, fun t h => bt_extract s o s.size t h (Nat.le_refl _)⟩

set_option maxHeartbeats 1000000 in
theorem plain_any (s : ByteArray) (mp : Int) (w : World) (hs : s.size ≤ maxLen) (h20 : s.size ≤ 1048576) (hmp0 : -9223372036854775808 ≤ mp) (hmp1 : mp ≤ 9223372036854775806) :
    Calls Try.prog 16 #[.string s, .int .i64 mp] w (Gave (bt s) s.size mp w) := by
  unfold maxLen at hs
  have hb := get_bt s
  have hmx : Hid (mp ≠ maxInt) := by show mp ≠ maxInt; unfold maxInt; omega
  go_enter Try.func16, Try.ntmps16
  go_wp2
  go_loop [5] (fun i => ∃ k : Nat, k ≤ s.size ∧ i = .int .i64 k ∧ ∀ i, i < k → dig (bt s i)) (fun i => s.size - (intOf i).toNat)
  case atStart => exact ⟨0, by omega, rfl, fun i h => absurd h (by omega)⟩
  case round =>
    obtain ⟨k, hk, rfl, hD⟩ := hrel
    by_cases cn : k < s.size
    · by_cases cd : 48 ≤ bt s k ∧ bt s k ≤ 57
      · go_wp2_with (go_at_call 19; refine (isDigit_yes _ _ cd).mono ?_; rintro e w' ⟨rfl, rfl⟩)
        go_round
        case rel => exact ⟨k + 1, by omega, by go_num, fun i h => if e : i = k then by subst e; exact cd else hD i (by omega)⟩
        case measure => simp [intOf]; omega
      · have hH : Head (bt s) s.size k := ⟨hk, hD, Or.inr ⟨cn, cd⟩⟩
        by_cases h0 : k = 0
        · subst h0
          go_wp2_with (go_at_call 19; refine (isDigit_no _ _ cd).mono ?_; rintro e w' ⟨rfl, rfl⟩)
          go_ret
          exact ⟨false, rfl, head_zero hH, rfl⟩
        · by_cases h13 : k ≤ 13
          · have hne : ((k : Int) == s.size) = false := beq_eq_false_iff_ne.2 (by omega)
            have h0' : ((k : Int) == 0) = false := beq_eq_false_iff_ne.2 (by omega)
            go_wp2_with fail
            refine (isDigit_no _ _ cd).mono ?_
            rintro e w' ⟨rfl, rfl⟩
            go_upto_region 9 with fail
            have A := part s k
            generalize s.extract k s.size = D at A
            have hb2 := get_bt D
            have hD0 : 0 < D.size := by omega
            have hD1 : D.size ≤ 1048576 := by omega
            have HA : Hid (D.size = s.size - k ∧ ∀ t, t < s.size - k → bt D t = bt s (k + t)) := A
            clear A
            have e0 : Hid (bt D 0 = bt s k) := HA.out.2 0 (by have := HA.out.1; omega)
            cases h46 : (bt D 0 != 46)
            · by_cases h2 : D.size < 2
              · go_wp2
                go_ret
                exact ⟨false, rfl, head_no hH cn (Or.inr (Or.inl (by have := HA.out.1; omega))), rfl⟩
              · by_cases h3 : 1 + mp < D.size
                · go_wp2
                  go_ret
                  exact ⟨false, rfl, head_no hH cn (Or.inr (Or.inr (Or.inl (by have := HA.out.1; omega)))), rfl⟩
                · go_wp2
                  go_loop [7] (fun i => ∃ t : Nat, 1 ≤ t ∧ t ≤ D.size ∧ i = .int .i64 t ∧ ∀ j, 1 ≤ j → j < t → dig (bt D j)) (fun i => D.size - (intOf i).toNat)
                  case atStart => exact ⟨1, by omega, by omega, rfl, fun i h h' => absurd h (by omega)⟩
                  case round =>
                    obtain ⟨t, ht1, ht, rfl, hT⟩ := hrel
                    by_cases ct : t < D.size
                    · by_cases cd2 : 48 ≤ bt D t ∧ bt D t ≤ 57
                      · go_wp2_with (go_at_call 19; refine (isDigit_yes _ _ cd2).mono ?_; rintro e w' ⟨rfl, rfl⟩)
                        go_round
                        case rel => exact ⟨t + 1, by omega, by omega, by go_num, fun i h h' => if e : i = t then by subst e; exact cd2 else hT i h (by omega)⟩
                        case measure => simp [intOf]; omega
                      · go_wp2_with (go_at_call 19; refine (isDigit_no _ _ cd2).mono ?_; rintro e w' ⟨rfl, rfl⟩)
                        go_ret
                        exact ⟨false, rfl, head_no hH cn (Or.inr (Or.inr (Or.inr (Or.inr ⟨t, ht1, by have := HA.out.1; omega, by rw [← HA.out.2 t (by have := HA.out.1; omega)]; exact cd2⟩)))), rfl⟩
                    · go_wp2
                      go_ret
                      exact ⟨true, rfl, head_yes hH h0 h13 (by rw [← e0.out]; simpa using h46) (by have := HA.out.1; omega) (by have := HA.out.1; omega) hmx.out (fun i h h' => by rw [← HA.out.2 i h']; exact hT i h (by have := HA.out.1; omega)), rfl⟩
            · go_wp2
              go_ret
              exact ⟨false, rfl, head_no hH cn (Or.inl (by rw [← e0.out]; exact bne_iff_ne.1 h46)), rfl⟩
          · go_wp2_with (go_at_call 19; refine (isDigit_no _ _ cd).mono ?_; rintro e w' ⟨rfl, rfl⟩)
            go_ret
            exact ⟨false, rfl, head_long hH (by omega), rfl⟩
    · have hkn : k = s.size := by omega
      subst hkn
      have hH : Head (bt s) s.size s.size := ⟨hk, hD, Or.inl rfl⟩
      by_cases h0 : s.size = 0
      · have h0' : ((s.size : Int) == 0) = true := beq_iff_eq.2 (by omega)
        have hH' : Hid (Ans (bt s) s.size mp false) := by
          have := hH
          show Ans (bt s) s.size mp false
          rw [h0] at this ⊢
          exact head_zero this
        clear h0
        go_wp2
        go_ret
        exact ⟨false, rfl, hH'.out, rfl⟩
      · have h0' : ((s.size : Int) == 0) = false := beq_eq_false_iff_ne.2 (by omega)
        by_cases h13 : s.size ≤ 13
        · go_wp2
          go_ret
          exact ⟨true, rfl, head_all hH h0 h13, rfl⟩
        · go_wp2
          go_ret
          exact ⟨false, rfl, head_long hH (by omega), rfl⟩

set_option maxHeartbeats 1000000 in
theorem plain_max (s : ByteArray) (mp : Int) (w : World) (hs : s.size ≤ maxLen) (h20 : s.size ≤ 1048576) (hmx : Hid (mp = maxInt)) (hwr : wrap64 (1 + mp) < 0) :
    Calls Try.prog 16 #[.string s, .int .i64 mp] w (Gave (bt s) s.size mp w) := by
  unfold maxLen at hs
  have hb := get_bt s
  go_enter Try.func16, Try.ntmps16
  go_wp2
  go_loop [5] (fun i => ∃ k : Nat, k ≤ s.size ∧ i = .int .i64 k ∧ ∀ i, i < k → dig (bt s i)) (fun i => s.size - (intOf i).toNat)
  case atStart => exact ⟨0, by omega, rfl, fun i h => absurd h (by omega)⟩
  case round =>
    obtain ⟨k, hk, rfl, hD⟩ := hrel
    by_cases cn : k < s.size
    · by_cases cd : 48 ≤ bt s k ∧ bt s k ≤ 57
      · go_wp2_with (go_at_call 19; refine (isDigit_yes _ _ cd).mono ?_; rintro e w' ⟨rfl, rfl⟩)
        go_round
        case rel => exact ⟨k + 1, by omega, by go_num, fun i h => if e : i = k then by subst e; exact cd else hD i (by omega)⟩
        case measure => simp [intOf]; omega
      · have hH : Head (bt s) s.size k := ⟨hk, hD, Or.inr ⟨cn, cd⟩⟩
        by_cases h0 : k = 0
        · subst h0
          go_wp2_with (go_at_call 19; refine (isDigit_no _ _ cd).mono ?_; rintro e w' ⟨rfl, rfl⟩)
          go_ret
          exact ⟨false, rfl, head_zero hH, rfl⟩
        · by_cases h13 : k ≤ 13
          · have hne : ((k : Int) == s.size) = false := beq_eq_false_iff_ne.2 (by omega)
            have h0' : ((k : Int) == 0) = false := beq_eq_false_iff_ne.2 (by omega)
            go_wp2_with fail
            refine (isDigit_no _ _ cd).mono ?_
            rintro e w' ⟨rfl, rfl⟩
            go_upto_region 9 with fail
            have A := part s k
            generalize s.extract k s.size = D at A
            have hb2 := get_bt D
            have hD0 : 0 < D.size := by omega
            have hD1 : D.size ≤ 1048576 := by omega
            have HA : Hid (D.size = s.size - k ∧ ∀ t, t < s.size - k → bt D t = bt s (k + t)) := A
            clear A
            have e0 : Hid (bt D 0 = bt s k) := HA.out.2 0 (by have := HA.out.1; omega)
            cases h46 : (bt D 0 != 46)
            · by_cases h2 : D.size < 2
              · go_wp2
                go_ret
                exact ⟨false, rfl, head_no hH cn (Or.inr (Or.inl (by have := HA.out.1; omega))), rfl⟩
              · go_wp2
                go_ret
                exact ⟨false, rfl, head_no hH cn (Or.inr (Or.inr (Or.inr (Or.inl hmx.out)))), rfl⟩
            · go_wp2
              go_ret
              exact ⟨false, rfl, head_no hH cn (Or.inl (by rw [← e0.out]; exact bne_iff_ne.1 h46)), rfl⟩
          · go_wp2_with (go_at_call 19; refine (isDigit_no _ _ cd).mono ?_; rintro e w' ⟨rfl, rfl⟩)
            go_ret
            exact ⟨false, rfl, head_long hH (by omega), rfl⟩
    · have hkn : k = s.size := by omega
      subst hkn
      have hH : Head (bt s) s.size s.size := ⟨hk, hD, Or.inl rfl⟩
      by_cases h0 : s.size = 0
      · have h0' : ((s.size : Int) == 0) = true := beq_iff_eq.2 (by omega)
        have hH' : Hid (Ans (bt s) s.size mp false) := by
          have := hH
          show Ans (bt s) s.size mp false
          rw [h0] at this ⊢
          exact head_zero this
        clear h0
        go_wp2
        go_ret
        exact ⟨false, rfl, hH'.out, rfl⟩
      · have h0' : ((s.size : Int) == 0) = false := beq_eq_false_iff_ne.2 (by omega)
        by_cases h13 : s.size ≤ 13
        · go_wp2
          go_ret
          exact ⟨true, rfl, head_all hH h0 h13, rfl⟩
        · go_wp2
          go_ret
          exact ⟨false, rfl, head_long hH (by omega), rfl⟩

theorem wraps {mp : Int} (h : mp = maxInt) : wrap64 (1 + mp) < 0 := by
  rw [h]; unfold maxInt wrap64; omega
end Go.Proofs.Qxb6602973a.Dec
