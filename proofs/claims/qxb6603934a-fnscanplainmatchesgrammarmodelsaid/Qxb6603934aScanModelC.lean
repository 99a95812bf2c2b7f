import Derived.Test.Qxb6603934aRows
import Derived.WalkKit
import Derived.WalkSpells
import Derived.WalkLawsBesides
import Derived.PlainAid
import Derived.Handy
import Derived.Test.Qxb6603934aScanPlain
import Derived.Test.Qxb6603934aScanModel
namespace Go.Proofs.Qxb6603934a.Scan
open Go.RowKit Go.PlainAid


set_option maxHeartbeats 1000000 in
theorem model_neg (s0 s : ByteArray) (hT : s0.extract 1 s0.size = s) (w : World) (hs0 : s0.size ≤ maxLen) (h20 : s0.size ≤ 1048576) (h0 : 0 < s0.size) (h1 : (bt s0 0 == 45) = true) :
    Calls Try.prog 15 #[.string s0] w (Gave true (bt s) s.size w) := by
  unfold maxLen at hs0
  have hb0' := get_bt s0
  have hsz : s.size ≤ 1048576 := by rw [← hT]; simp; omega
  have hb := get_bt s
  · go_enter Try.func15, Try.ntmps15
    go_wp2
    clear hT
    go_loop [8, 9, 10] (fun dt ds i => ∃ (k : Nat) (a b : Int), k ≤ s.size ∧ i = .int .i64 k ∧ dt = .int .i64 b ∧ ds = .int .i64 a ∧ MI (bt s) k a b) (fun _ _ i => s.size - (intOf i).toNat)
    case atStart => exact ⟨0, 0, -1, Nat.zero_le _, rfl, rfl, rfl, MI_start _⟩
    case round =>
      obtain ⟨k, a, b, hk, rfl, rfl, rfl, hI⟩ := hrel
      obtain ⟨b1, b2, b3, b4⟩ := MI_bounds hI
      have n1 := bt_nonneg s k
      have n2 := bt_le s k
      by_cases hlt : k < s.size
      · by_cases hd : 48 ≤ bt s k ∧ bt s k ≤ 57
        · go_wp2_with (go_at_call 25; refine (isDigit_any _ _).mono ?_; rintro e w' ⟨rfl, rfl⟩)
          all_goals first
            | (have q1 : (bt s k == 46) = false := by assumption
               go_round
               case rel => exact ⟨k + 1, _, _, by omega, by go_num, rfl, rfl, MI_dig hI (by simpa using q1) hd⟩
               case measure => simp [intOf]; omega)
            | (exfalso; have q1 : (bt s k == 46) = true := by assumption
               have := eq_of_beq q1; omega)
        · go_wp2_with (go_at_call 25; refine (isDigit_any _ _).mono ?_; rintro e w' ⟨rfl, rfl⟩)
          all_goals first
            | (have q1 : (bt s k == 46) = true := by assumption
               have q2 : b < 0 := by assumption
               go_round
               case rel => exact ⟨k + 1, _, _, by omega, by go_num, rfl, rfl, MI_dot1 hI (eq_of_beq q1) q2⟩
               case measure => simp [intOf]; omega)
            | (have q1 : (bt s k == 46) = true := by assumption
               have q2 : 0 ≤ b := by assumption
               go_round
               case rel => exact ⟨k + 1, _, _, by omega, by go_num, rfl, rfl, MI_dot2 hI (eq_of_beq q1) q2⟩
               case measure => simp [intOf]; omega)
            | (have q1 : (bt s k == 46) = false := by assumption
               refine bodyPost_ret (v := .tuple #[.int .i64 0, .int .i32 0, .int .i64 0, .bool false]) (by simp [results, Try.results15, go_sem]) rfl ?_
               exact gave_no (MI_bad hlt (by simpa using q1) hd))
      · have hkn : k = s.size := by omega
        subst hkn
        by_cases hb0 : b < 0
        · go_wp2
          all_goals first
            | (have q1 : 1 < a := by assumption
               refine bodyPost_ret (v := .tuple #[.int .i64 0, .int .i32 0, .int .i64 0, .bool false]) (by simp [results, Try.results15, go_sem]) rfl ?_
               exact gave_no (MI_many hI q1))
            | (have q1 : ((s.size : Int) == 0) = true := by assumption
               refine bodyPost_ret (v := .tuple #[.int .i64 0, .int .i32 0, .int .i64 0, .bool false]) (by simp [results, Try.results15, go_sem]) rfl ?_
               exact gave_no (MI_empty (by have := eq_of_beq q1; omega)))
            | skip
          have hz : ¬ s.size = 0 := by
            have q1 : ((s.size : Int) == 0) = false := by assumption
            have := ne_of_beq_false q1; omega
          have hdg := MI_digs hI hb0
          have A := all1 s
          generalize s ++ (⟨#[]⟩ : ByteArray) = al at A
          have hR : Hid (Res (bt s) s.size (val (bt al) (min al.size 18)) 0 al.size true) := by
            rw [A.1, val_congr (f := bt al) (g := bt s) _ (fun i hi => A.2 i (by omega))]
            exact MI_yes1 hI hb0 hz rfl
          have hda : ∀ i, i < al.size → dig (bt al i) := fun i hi => by rw [A.2 i (by omega)]; exact hdg i (by omega)
          have hsa : al.size ≤ 1048576 := by omega
          clear A
          have hb2 := get_bt al
          go_loop [14, 15] (fun v i => ∃ k : Nat, k ≤ al.size ∧ k ≤ 18 ∧ i = .int .i64 k ∧ v = .int .i64 (val (bt al) k)) (fun _ i => 18 - (intOf i).toNat)
          case atStart => exact ⟨0, Nat.zero_le _, by omega, rfl, rfl⟩
          case round =>
            obtain ⟨k, hk, hk2, rfl, rfl⟩ := hrel
            have v1 := val_bound (f := bt al) hk2 (fun i hi => hda i (by omega))
            by_cases hlt2 : k < al.size
            · by_cases h18 : k < 18
              · have v2 := val_bound17 (f := bt al) (k := k) (by omega) (fun i hi => hda i (by omega))
                have v3 := hda k hlt2
                unfold dig at v3
                go_wp2
                go_round
                case rel => exact ⟨k + 1, by omega, by omega, by go_num, rfl⟩
                case measure => simp [intOf]; omega
              · go_wp2
                have e : k = min al.size 18 := by omega
                refine bodyPost_ret (v := .tuple #[.int .i64 (-(val (bt al) k)), .int .i32 (0), .int .i64 al.size, .bool true]) (by simp [results, Try.results15, go_sem]) rfl ?_
                exact gave_of hR.out (by rw [← e]; rfl) (by omega) rfl
            · go_wp2
              have e : k = min al.size 18 := by omega
              refine bodyPost_ret (v := .tuple #[.int .i64 (-(val (bt al) k)), .int .i32 (0), .int .i64 al.size, .bool true]) (by simp [results, Try.results15, go_sem]) rfl ?_
              exact gave_of hR.out (by rw [← e]; rfl) (by omega) rfl
        · obtain ⟨p, rfl⟩ := Int.eq_ofNat_of_zero_le (show 0 ≤ b by omega)
          go_wp2
          all_goals first
            | (have q1 : 1 < a := by assumption
               refine bodyPost_ret (v := .tuple #[.int .i64 0, .int .i32 0, .int .i64 0, .bool false]) (by simp [results, Try.results15, go_sem]) rfl ?_
               exact gave_no (MI_many hI q1))
            | (have q1 : (((s.size - (p + 1) : Nat) : Int) == 0) = true := by assumption
               have q2 : a ≤ 1 := by assumption
               refine bodyPost_ret (v := .tuple #[.int .i64 0, .int .i32 0, .int .i64 0, .bool false]) (by simp [results, Try.results15, go_sem]) rfl ?_
               exact gave_no (MI_edge hI q2 (Or.inr (by have := eq_of_beq q1; omega))))
            | (have q1 : (((min p s.size : Nat) : Int) == 0) = true := by assumption
               have q2 : a ≤ 1 := by assumption
               refine bodyPost_ret (v := .tuple #[.int .i64 0, .int .i32 0, .int .i64 0, .bool false]) (by simp [results, Try.results15, go_sem]) rfl ?_
               exact gave_no (MI_edge hI q2 (Or.inl (by have := eq_of_beq q1; omega))))
            | skip
          have hz1 : ¬ s.size - (p + 1) = 0 := by
            have q1 : (((s.size - (p + 1) : Nat) : Int) == 0) = false := by assumption
            have := ne_of_beq_false q1; omega
          have hz2 : ¬ p = 0 := by
            have q1 : (((min p s.size : Nat) : Int) == 0) = false := by assumption
            have := ne_of_beq_false q1; omega
          have ha1 : a ≤ 1 := by assumption
          have hdg := MI_digs2 hI ha1
          have A := all2 s p hdg.2.1
          generalize s.extract 0 p ++ s.extract (p + 1) s.size = al at A
          have hR : Hid (Res (bt s) s.size (val (bt al) (min al.size 18)) ((s.size : Int) - p - 1) al.size true) := by
            rw [A.1, val_congr (f := bt al) (g := fun i => bt s (skip p i)) _ (fun i hi => A.2 i (by omega)), show ((s.size - 1 : Nat) : Int) = (s.size : Int) - 1 by omega]
            exact MI_yes2 hI ha1 hz2 hz1 rfl
          have hda : ∀ i, i < al.size → dig (bt al i) := fun i hi => by rw [A.2 i (by omega)]; exact dig_skip hdg.2.2 i (by omega)
          have hsa : al.size ≤ 1048576 := by omega
          clear A
          have hb2 := get_bt al
          go_loop [14, 15] (fun v i => ∃ k : Nat, k ≤ al.size ∧ k ≤ 18 ∧ i = .int .i64 k ∧ v = .int .i64 (val (bt al) k)) (fun _ i => 18 - (intOf i).toNat)
          case atStart => exact ⟨0, Nat.zero_le _, by omega, rfl, rfl⟩
          case round =>
            obtain ⟨k, hk, hk2, rfl, rfl⟩ := hrel
            have v1 := val_bound (f := bt al) hk2 (fun i hi => hda i (by omega))
            by_cases hlt2 : k < al.size
            · by_cases h18 : k < 18
              · have v2 := val_bound17 (f := bt al) (k := k) (by omega) (fun i hi => hda i (by omega))
                have v3 := hda k hlt2
                unfold dig at v3
                go_wp2
                go_round
                case rel => exact ⟨k + 1, by omega, by omega, by go_num, rfl⟩
                case measure => simp [intOf]; omega
              · go_wp2
                have e : k = min al.size 18 := by omega
                refine bodyPost_ret (v := .tuple #[.int .i64 (-(val (bt al) k)), .int .i32 (((s.size - (p + 1) : Nat) : Int)), .int .i64 al.size, .bool true]) (by simp [results, Try.results15, go_sem]) rfl ?_
                exact gave_of hR.out (by rw [← e]; rfl) (by omega) rfl
            · go_wp2
              have e : k = min al.size 18 := by omega
              refine bodyPost_ret (v := .tuple #[.int .i64 (-(val (bt al) k)), .int .i32 (((s.size - (p + 1) : Nat) : Int)), .int .i64 al.size, .bool true]) (by simp [results, Try.results15, go_sem]) rfl ?_
              exact gave_of hR.out (by rw [← e]; rfl) (by omega) rfl
end Go.Proofs.Qxb6603934a.Scan
