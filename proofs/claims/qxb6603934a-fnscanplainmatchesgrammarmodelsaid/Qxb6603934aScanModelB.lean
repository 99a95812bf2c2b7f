import Derived.Test.Qxb6603934aRows
import Derived.WalkKit
import Derived.WalkSpells
import Derived.WalkLawsBesides
import Derived.PlainAid
import Derived.Handy
import Derived.Test.Qxb6603934aScanPlain
import Derived.Test.Qxb6603934aScanModel
namespace Go.Proofs.Qxb6603934a.Scan
open Go.RowKit Go.PlainAid


set_option maxHeartbeats 1000000 in
theorem model_empty (s : ByteArray) (w : World) (hs : s.size ≤ maxLen) (h0 : s.size = 0) :
    Calls Try.prog 15 #[.string s] w (Gave false (bt s) s.size w) := by
  unfold maxLen at hs
  have hb := get_bt s
  have h20 : s.size ≤ 1048576 := by omega
  have h00 : ¬ 0 < s.size := by omega
  clear h0
  · go_enter Try.func15, Try.ntmps15
    go_wp2
    go_loop [8, 9, 10] (fun dt ds i => ∃ (k : Nat) (a b : Int), k ≤ s.size ∧ i = .int .i64 k ∧ dt = .int .i64 b ∧ ds = .int .i64 a ∧ MI (bt s) k a b) (fun _ _ i => s.size - (intOf i).toNat)
    case atStart => exact ⟨0, 0, -1, Nat.zero_le _, rfl, rfl, rfl, MI_start _⟩
    case round =>
      obtain ⟨k, a, b, hk, rfl, rfl, rfl, hI⟩ := hrel
      obtain ⟨b1, b2, b3, b4⟩ := MI_bounds hI
      have hkn : k = s.size := by omega
      subst hkn
      go_wp2
      all_goals first
        | (have q1 : 1 < a := by assumption
           refine bodyPost_ret (v := .tuple #[.int .i64 0, .int .i32 0, .int .i64 0, .bool false]) (by simp [results, Try.results15, go_sem]) rfl ?_
           exact gave_no (MI_many hI q1))
        | (refine bodyPost_ret (v := .tuple #[.int .i64 0, .int .i32 0, .int .i64 0, .bool false]) (by simp [results, Try.results15, go_sem]) rfl ?_
           exact gave_no (MI_empty (by omega)))
end Go.Proofs.Qxb6603934a.Scan
