import Derived.Test.Qxb6603934aRows
import Derived.WalkKit
import Derived.WalkSpells
import Derived.WalkLawsBesides
import Derived.PlainAid
import Derived.Handy
import Derived.Test.Qxb6603934aScanPlain
namespace Go.Proofs.Qxb6603934a.Scan
open Go.RowKit Go.PlainAid

/-- What both scans hand back: a scan's answer, its value under the sign. -/
def Gave (neg : Bool) (f : Nat → Int) (n : Nat) (w : World) (e : Ending) (w' : World) : Prop :=
  ∃ v pl dg ok, e = .returned (.tuple #[.int .i64 (if neg then -v else v), .int .i32 pl, .int .i64 dg, .bool ok]) ∧ Res f n v pl dg ok ∧ w' = w

set_option maxHeartbeats 400000 in
theorem scan_empty (s : ByteArray) (w : World) (hs : s.size ≤ maxLen) (h0 : s.size = 0) :
    Calls Try.prog 26 #[.string s] w (Gave false (bt s) s.size w) := by
  unfold maxLen at hs
  have hb := get_bt s
  have h20 : s.size ≤ 1048576 := by omega
  have h00 : ¬ 0 < s.size := by omega
  clear h0
  · go_enter Try.func26, Try.ntmps26
    go_wp2

    go_loop [2, 3, 4, 7, 8] (fun sm pl dg pt i => ∃ (k : Nat) (a b c : Int), k ≤ s.size ∧ i = .int .i64 k ∧ pl = .int .i32 0 ∧ sm = .int .i64 a ∧ dg = .int .i64 b ∧ pt = .int .i64 c ∧ SI (bt s) k a b c) (fun _ _ _ _ i => s.size - (intOf i).toNat)
    case atStart => exact ⟨0, 0, 0, -1, Nat.zero_le _, rfl, rfl, rfl, rfl, rfl, SI_start _⟩
    case round =>
      obtain ⟨k, a, b, c, hk, rfl, rfl, rfl, rfl, rfl, hI⟩ := hrel
      obtain ⟨b1, b2, b3, b4, b5, b6⟩ := SI_bounds hI
      have hroom : b + 1 ≤ 18 → a ≤ 99999999999999999 := fun h => SI_room hI h
      have n1 := bt_nonneg s k
      have n2 := bt_le s k
      by_cases hlt : k < s.size
      · go_wp2
        all_goals first
          | (have q1 : bt s k = 46 := by assumption
             have q2 : c < 0 := by assumption
             have q3 : 0 < k := by assumption
             go_round
             case rel => exact ⟨k + 1, _, _, _, by omega, by go_num, rfl, rfl, rfl, rfl, SI_point hI q1 q2 q3⟩
             case measure => simp [intOf]; omega)
          | (have q1 : b + 1 ≤ 18 := by assumption
             have q2 : 48 ≤ bt s k ∧ bt s k ≤ 57 := by assumption
             go_round
             case rel => exact ⟨k + 1, _, _, _, by omega, by go_num, rfl, rfl, rfl, rfl, SI_digit hI q2.1 q2.2 q1⟩
             case measure => simp [intOf]; omega)
          | (have q1 : 18 < b + 1 := by assumption
             have q2 : 48 ≤ bt s k ∧ bt s k ≤ 57 := by assumption
             go_round
             case rel => exact ⟨k + 1, _, _, _, by omega, by go_num, rfl, rfl, rfl, rfl, SI_digit_more hI q2.1 q2.2 (by omega)⟩
             case measure => simp [intOf]; omega)
          | (refine bodyPost_ret (v := .tuple #[.int .i64 0, .int .i32 0, .int .i64 0, .bool false]) (by simp [results, Try.results26, go_sem]) rfl ?_
             exact ⟨0, 0, 0, false, rfl, SI_bad hI hlt (by omega) (by unfold dig; omega), rfl⟩)
      · have hkn : k = s.size := by omega
        subst hkn
        go_wp2
        all_goals first
          | (have q1 : b = 0 := by assumption
             refine bodyPost_ret (v := .tuple #[.int .i64 0, .int .i32 0, .int .i64 0, .bool false]) (by simp [results, Try.results26, go_sem]) rfl ?_
             exact ⟨0, 0, 0, false, rfl, SI_no hI (Or.inl q1), rfl⟩)
          | (have q1 : (b == 0) = true ∨ (c == (s.size : Int) - 1) = true := by assumption
             refine bodyPost_ret (v := .tuple #[.int .i64 0, .int .i32 0, .int .i64 0, .bool false]) (by simp [results, Try.results26, go_sem]) rfl ?_
             exact ⟨0, 0, 0, false, rfl, SI_no hI (by simpa using q1), rfl⟩)
          | (have q1 : (b == 0) = false ∧ (c == (s.size : Int) - 1) = false := by assumption
             have q2 : 0 ≤ c := by assumption
             refine bodyPost_ret (v := .tuple #[.int .i64 (a), .int .i32 ((s.size : Int) - c - 1), .int .i64 b, .bool true]) (by simp [results, Try.results26, go_sem]) rfl ?_
             exact ⟨a, (s.size : Int) - c - 1, b, true, rfl, SI_yes2 hI (by simpa using q1.2) q2, rfl⟩)
          | (have q1 : (b == 0) = false ∧ (c == (s.size : Int) - 1) = false := by assumption
             have q2 : c < 0 := by assumption
             refine bodyPost_ret (v := .tuple #[.int .i64 (a), .int .i32 0, .int .i64 b, .bool true]) (by simp [results, Try.results26, go_sem]) rfl ?_
             exact ⟨a, 0, b, true, rfl, SI_yes1 hI (by simpa using q1.1) q2, rfl⟩)

set_option maxHeartbeats 400000 in
theorem scan_pos (s : ByteArray) (w : World) (hs : s.size ≤ maxLen) (h20 : s.size ≤ 1048576) (h0 : 0 < s.size) (h1 : (bt s 0 == 45) = false) :
    Calls Try.prog 26 #[.string s] w (Gave false (bt s) s.size w) := by
  unfold maxLen at hs
  have hb := get_bt s
  · go_enter Try.func26, Try.ntmps26
    go_wp2

    go_loop [2, 3, 4, 7, 8] (fun sm pl dg pt i => ∃ (k : Nat) (a b c : Int), k ≤ s.size ∧ i = .int .i64 k ∧ pl = .int .i32 0 ∧ sm = .int .i64 a ∧ dg = .int .i64 b ∧ pt = .int .i64 c ∧ SI (bt s) k a b c) (fun _ _ _ _ i => s.size - (intOf i).toNat)
    case atStart => exact ⟨0, 0, 0, -1, Nat.zero_le _, rfl, rfl, rfl, rfl, rfl, SI_start _⟩
    case round =>
      obtain ⟨k, a, b, c, hk, rfl, rfl, rfl, rfl, rfl, hI⟩ := hrel
      obtain ⟨b1, b2, b3, b4, b5, b6⟩ := SI_bounds hI
      have hroom : b + 1 ≤ 18 → a ≤ 99999999999999999 := fun h => SI_room hI h
      have n1 := bt_nonneg s k
      have n2 := bt_le s k
      by_cases hlt : k < s.size
      · go_wp2
        all_goals first
          | (have q1 : bt s k = 46 := by assumption
             have q2 : c < 0 := by assumption
             have q3 : 0 < k := by assumption
             go_round
             case rel => exact ⟨k + 1, _, _, _, by omega, by go_num, rfl, rfl, rfl, rfl, SI_point hI q1 q2 q3⟩
             case measure => simp [intOf]; omega)
          | (have q1 : b + 1 ≤ 18 := by assumption
             have q2 : 48 ≤ bt s k ∧ bt s k ≤ 57 := by assumption
             go_round
             case rel => exact ⟨k + 1, _, _, _, by omega, by go_num, rfl, rfl, rfl, rfl, SI_digit hI q2.1 q2.2 q1⟩
             case measure => simp [intOf]; omega)
          | (have q1 : 18 < b + 1 := by assumption
             have q2 : 48 ≤ bt s k ∧ bt s k ≤ 57 := by assumption
             go_round
             case rel => exact ⟨k + 1, _, _, _, by omega, by go_num, rfl, rfl, rfl, rfl, SI_digit_more hI q2.1 q2.2 (by omega)⟩
             case measure => simp [intOf]; omega)
          | (refine bodyPost_ret (v := .tuple #[.int .i64 0, .int .i32 0, .int .i64 0, .bool false]) (by simp [results, Try.results26, go_sem]) rfl ?_
             exact ⟨0, 0, 0, false, rfl, SI_bad hI hlt (by omega) (by unfold dig; omega), rfl⟩)
      · have hkn : k = s.size := by omega
        subst hkn
        go_wp2
        all_goals first
          | (have q1 : b = 0 := by assumption
             refine bodyPost_ret (v := .tuple #[.int .i64 0, .int .i32 0, .int .i64 0, .bool false]) (by simp [results, Try.results26, go_sem]) rfl ?_
             exact ⟨0, 0, 0, false, rfl, SI_no hI (Or.inl q1), rfl⟩)
          | (have q1 : (b == 0) = true ∨ (c == (s.size : Int) - 1) = true := by assumption
             refine bodyPost_ret (v := .tuple #[.int .i64 0, .int .i32 0, .int .i64 0, .bool false]) (by simp [results, Try.results26, go_sem]) rfl ?_
             exact ⟨0, 0, 0, false, rfl, SI_no hI (by simpa using q1), rfl⟩)
          | (have q1 : (b == 0) = false ∧ (c == (s.size : Int) - 1) = false := by assumption
             have q2 : 0 ≤ c := by assumption
             refine bodyPost_ret (v := .tuple #[.int .i64 (a), .int .i32 ((s.size : Int) - c - 1), .int .i64 b, .bool true]) (by simp [results, Try.results26, go_sem]) rfl ?_
             exact ⟨a, (s.size : Int) - c - 1, b, true, rfl, SI_yes2 hI (by simpa using q1.2) q2, rfl⟩)
          | (have q1 : (b == 0) = false ∧ (c == (s.size : Int) - 1) = false := by assumption
             have q2 : c < 0 := by assumption
             refine bodyPost_ret (v := .tuple #[.int .i64 (a), .int .i32 0, .int .i64 b, .bool true]) (by simp [results, Try.results26, go_sem]) rfl ?_
             exact ⟨a, 0, b, true, rfl, SI_yes1 hI (by simpa using q1.1) q2, rfl⟩)

set_option maxHeartbeats 400000 in
theorem scan_neg (s0 s : ByteArray) (hT : s0.extract 1 s0.size = s) (w : World) (hs0 : s0.size ≤ maxLen) (h20 : s0.size ≤ 1048576) (h0 : 0 < s0.size) (h1 : (bt s0 0 == 45) = true) :
    Calls Try.prog 26 #[.string s0] w (Gave true (bt s) s.size w) := by
  unfold maxLen at hs0
  have hb0 := get_bt s0
  have hsz : s.size ≤ 1048576 := by rw [← hT]; simp; omega
  have hb := get_bt s
  · go_enter Try.func26, Try.ntmps26
    go_wp2
    clear hT
    go_loop [2, 3, 4, 7, 8] (fun sm pl dg pt i => ∃ (k : Nat) (a b c : Int), k ≤ s.size ∧ i = .int .i64 k ∧ pl = .int .i32 0 ∧ sm = .int .i64 a ∧ dg = .int .i64 b ∧ pt = .int .i64 c ∧ SI (bt s) k a b c) (fun _ _ _ _ i => s.size - (intOf i).toNat)
    case atStart => exact ⟨0, 0, 0, -1, Nat.zero_le _, rfl, rfl, rfl, rfl, rfl, SI_start _⟩
    case round =>
      obtain ⟨k, a, b, c, hk, rfl, rfl, rfl, rfl, rfl, hI⟩ := hrel
      obtain ⟨b1, b2, b3, b4, b5, b6⟩ := SI_bounds hI
      have hroom : b + 1 ≤ 18 → a ≤ 99999999999999999 := fun h => SI_room hI h
      have n1 := bt_nonneg s k
      have n2 := bt_le s k
      by_cases hlt : k < s.size
      · go_wp2
        all_goals first
          | (have q1 : bt s k = 46 := by assumption
             have q2 : c < 0 := by assumption
             have q3 : 0 < k := by assumption
             go_round
             case rel => exact ⟨k + 1, _, _, _, by omega, by go_num, rfl, rfl, rfl, rfl, SI_point hI q1 q2 q3⟩
             case measure => simp [intOf]; omega)
          | (have q1 : b + 1 ≤ 18 := by assumption
             have q2 : 48 ≤ bt s k ∧ bt s k ≤ 57 := by assumption
             go_round
             case rel => exact ⟨k + 1, _, _, _, by omega, by go_num, rfl, rfl, rfl, rfl, SI_digit hI q2.1 q2.2 q1⟩
             case measure => simp [intOf]; omega)
          | (have q1 : 18 < b + 1 := by assumption
             have q2 : 48 ≤ bt s k ∧ bt s k ≤ 57 := by assumption
             go_round
             case rel => exact ⟨k + 1, _, _, _, by omega, by go_num, rfl, rfl, rfl, rfl, SI_digit_more hI q2.1 q2.2 (by omega)⟩
             case measure => simp [intOf]; omega)
          | (refine bodyPost_ret (v := .tuple #[.int .i64 0, .int .i32 0, .int .i64 0, .bool false]) (by simp [results, Try.results26, go_sem]) rfl ?_
             exact ⟨0, 0, 0, false, rfl, SI_bad hI hlt (by omega) (by unfold dig; omega), rfl⟩)
      · have hkn : k = s.size := by omega
        subst hkn
        go_wp2
        all_goals first
          | (have q1 : b = 0 := by assumption
             refine bodyPost_ret (v := .tuple #[.int .i64 0, .int .i32 0, .int .i64 0, .bool false]) (by simp [results, Try.results26, go_sem]) rfl ?_
             exact ⟨0, 0, 0, false, rfl, SI_no hI (Or.inl q1), rfl⟩)
          | (have q1 : (b == 0) = true ∨ (c == (s.size : Int) - 1) = true := by assumption
             refine bodyPost_ret (v := .tuple #[.int .i64 0, .int .i32 0, .int .i64 0, .bool false]) (by simp [results, Try.results26, go_sem]) rfl ?_
             exact ⟨0, 0, 0, false, rfl, SI_no hI (by simpa using q1), rfl⟩)
          | (have q1 : (b == 0) = false ∧ (c == (s.size : Int) - 1) = false := by assumption
             have q2 : 0 ≤ c := by assumption
             refine bodyPost_ret (v := .tuple #[.int .i64 (-a), .int .i32 ((s.size : Int) - c - 1), .int .i64 b, .bool true]) (by simp [results, Try.results26, go_sem]) rfl ?_
             exact ⟨a, (s.size : Int) - c - 1, b, true, rfl, SI_yes2 hI (by simpa using q1.2) q2, rfl⟩)
          | (have q1 : (b == 0) = false ∧ (c == (s.size : Int) - 1) = false := by assumption
             have q2 : c < 0 := by assumption
             refine bodyPost_ret (v := .tuple #[.int .i64 (-a), .int .i32 0, .int .i64 b, .bool true]) (by simp [results, Try.results26, go_sem]) rfl ?_
             exact ⟨a, 0, b, true, rfl, SI_yes1 hI (by simpa using q1.1) q2, rfl⟩)

end Go.Proofs.Qxb6603934a.Scan
