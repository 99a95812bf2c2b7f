import Derived.Test.Qxb6602973aRows
import Derived.WalkKit
import Derived.WalkSpells
import Derived.WalkLawsBesides
import Derived.PlainAid
import Derived.Handy
import Derived.Test.Qxb6602973aDec
import Derived.Test.Qxb6602973aWalk16
namespace Go.Proofs.Qxb6602973a.Dec
open Go.RowKit Go.PlainAid

set_option maxHeartbeats 1000000 in
theorem count_any (s : ByteArray) (mp : Int) (w : World) (hs : s.size ≤ maxLen) (h20 : s.size ≤ 1048576) (b : Bool) (hmx : (mp == 9223372036854775807) = b) (HB : Hid (b = decide (mp = maxInt))) :
    Calls Try.prog 9 #[.string s, .int .i64 mp] w (Gave (bt s) s.size mp w) := by
  unfold maxLen at hs
  have hb := get_bt s
  go_enter Try.func9, Try.ntmps9
  go_wp2
  go_loop [5, 6, 7] (fun ds dt i => ∃ (k : Nat) (a b : Int), k ≤ s.size ∧ i = .int .i64 k ∧ dt = .int .i64 b ∧ ds = .int .i64 a ∧ MI (bt s) k a b) (fun _ _ i => s.size - (intOf i).toNat)
  case atStart => exact ⟨0, 0, -1, Nat.zero_le _, rfl, rfl, rfl, MI_start _⟩
  case round =>
    obtain ⟨k, x, y, hk, rfl, rfl, rfl, hI⟩ := hrel
    obtain ⟨b1, b2, b3, b4⟩ := MI_bounds hI
    have n1 := bt_nonneg s k
    have n2 := bt_le s k
    by_cases hlt : k < s.size
    · go_wp2
      all_goals first
        | (have q1 : (bt s k == 46) = true := by assumption
           have q2 : y < 0 := by assumption
           go_round
           case rel => exact ⟨k + 1, _, _, by omega, by go_num, rfl, rfl, MI_dot1 hI (eq_of_beq q1) q2⟩
           case measure => simp [intOf]; omega)
        | (have q1 : (bt s k == 46) = true := by assumption
           have q2 : 0 ≤ y := by assumption
           go_round
           case rel => exact ⟨k + 1, _, _, by omega, by go_num, rfl, rfl, MI_dot2 hI (eq_of_beq q1) q2⟩
           case measure => simp [intOf]; omega)
        | (have q1 : (bt s k == 46) = false := by assumption
           have q2 : 48 ≤ bt s k ∧ bt s k ≤ 57 := by assumption
           go_round
           case rel => exact ⟨k + 1, _, _, by omega, by go_num, rfl, rfl, MI_dig hI (by simpa using q1) q2⟩
           case measure => simp [intOf]; omega)
        | (have q1 : (bt s k == 46) = false := by assumption
           go_ret
           exact ⟨false, rfl, MI_bad hlt (by simpa using q1) (by unfold dig; omega), rfl⟩)
    · have hkn : k = s.size := by omega
      subst hkn
      by_cases h0 : x = 0
      · subst h0
        by_cases hn : 1 ≤ s.size
        · by_cases hn2 : s.size ≤ 13
          · go_wp2
            go_ret
            exact ⟨_, rfl, by have := MI_zero (mp := mp) hI; rw [decide_eq_true ⟨hn, hn2⟩] at this; rw [decide_eq_true (show (s.size : Int) ≤ 13 by omega)]; exact this, rfl⟩
          · go_wp2
            go_ret
            exact ⟨_, rfl, by have := MI_zero (mp := mp) hI; rw [decide_eq_false (fun h => hn2 h.2)] at this; rw [decide_eq_false (show ¬ (s.size : Int) ≤ 13 by omega)]; exact this, rfl⟩
        · go_wp2
          go_ret
          exact ⟨_, rfl, by have := MI_zero (mp := mp) hI; rw [decide_eq_false (fun h => hn h.1)] at this; exact this, rfl⟩
      · by_cases h1 : x ≤ 1
        · obtain ⟨p, rfl, h46, hp, hd⟩ := MI_one hI h0 h1
          by_cases c1 : p < 1
          · go_wp2
            go_ret
            exact ⟨_, rfl, one_no h46 hp hd (Or.inl c1), rfl⟩
          · by_cases c2 : p ≤ 13
            · by_cases c3 : (s.size : Int) - p - 1 < 1
              · go_wp2
                go_ret
                exact ⟨_, rfl, one_no h46 hp hd (Or.inr (Or.inr (Or.inl c3))), rfl⟩
              · cases b
                · by_cases c4 : (s.size : Int) - p - 1 ≤ mp
                  · go_wp2
                    go_ret
                    exact ⟨_, rfl, one_yes h46 hd c1 c2 (by omega) (of_decide_eq_false HB.out.symm) c4, rfl⟩
                  · go_wp2
                    go_ret
                    exact ⟨_, rfl, one_no h46 hp hd (Or.inr (Or.inr (Or.inr (Or.inr (by omega))))), rfl⟩
                · go_wp2
                  go_ret
                  exact ⟨_, rfl, one_no h46 hp hd (Or.inr (Or.inr (Or.inr (Or.inl (of_decide_eq_true HB.out.symm))))), rfl⟩
            · go_wp2
              go_ret
              exact ⟨_, rfl, one_no h46 hp hd (Or.inr (Or.inl (by omega))), rfl⟩
        · go_wp2
          go_ret
          exact ⟨_, rfl, MI_many hI (by omega), rfl⟩
end Go.Proofs.Qxb6602973a.Dec
