import Derived.Test.Qxb6603934aRows
import Derived.WalkKit
import Derived.WalkSpells
import Derived.WalkLawsBesides
import Derived.Handy
import Derived.Test.Qxb6603934aArr
import Derived.Test.Qxb6603934aNormClone
namespace Go.Proofs.Qxb6603934a.Norm
open Go.RowKit Go.Deep

theorem canon_nil (w : World) : Calls Try.prog 21 #[.slice none 0 0] w fun e w' => e = .returned (.bool true) ∧ w' = w := by
  have hnil := nil29
  go_enter Try.func21, Try.ntmps21
  go_wp2
  go_ret
  exact ⟨rfl, rfl⟩

set_option maxHeartbeats 1000000 in
theorem canon_some (v : Value) (n : Nat) (f : Nat → Int) (w : World) (hr : Reads .i64 w v n f) (hn0 : 0 < n) (hl : n ≤ 1048576) (h0 : (f 0 == 0) = false) (h1 : (f (n - 1) == 0) = false)
    (hs : (∀ i, i < n → 0 ≤ f i ∧ f i ≤ 999999999) ∨ (∀ i, i < n → -999999999 ≤ f i ∧ f i ≤ 0)) :
    Calls Try.prog 21 #[v] w fun e w' => e = .returned (.bool true) ∧ w' = w := by
  obtain ⟨ao, cap, rfl, _, hc⟩ := hr
  obtain ⟨b, off, rfl, hcl⟩ := hc hn0
  clear hc
  obtain ⟨m, rfl⟩ : ∃ m, n = m + 1 := ⟨n - 1, by omega⟩
  simp only [Nat.add_sub_cancel] at h1
  have hcl0 : w.cell? ⟨b, off, none⟩ = some (.int .i64 (f 0)) := hcl 0 (by omega)
  have hclm : w.cell? ⟨b, off + m, none⟩ = some (.int .i64 (f m)) := hcl m (by omega)
  have HC : Hid (∀ i, i < m + 1 → w.cell? ⟨b, off + i, none⟩ = some (.int .i64 (f i))) := hcl
  have hlen : (((m + 1 : Nat) : Int) == 0) = false := beq_eq_false_iff_ne.2 (by omega)
  clear hcl
  rcases hs with hs | hs
  · have hpos : 0 < f m := by
      have := hs m (by omega)
      have := ne_of_beq_false h1
      omega
    have HS : Hid (∀ i, i < m + 1 → 0 ≤ f i ∧ f i ≤ 999999999) := hs
    clear hs
    go_enter Try.func21, Try.ntmps21
    go_wp2
    go_loop [4] (fun i => ∃ k : Nat, k ≤ m + 1 ∧ i = .int .i64 k) (fun i => m + 1 - (intOf i).toNat)
    case atStart => exact ⟨0, Nat.zero_le _, rfl⟩
    case round =>
      obtain ⟨k, hk, rfl⟩ := hrel
      by_cases hlt : k < m + 1
      · have ck := HC.out k hlt
        have sk := HS.out k hlt
        go_wp2
        go_round
        case rel => exact ⟨k + 1, by omega, by go_num⟩
        case measure => simp [intOf]; omega
      · go_wp2
        go_ret
        exact ⟨rfl, rfl⟩
  · have hpos : ¬ 0 < f m := by
      have := hs m (by omega)
      omega
    have HS : Hid (∀ i, i < m + 1 → -999999999 ≤ f i ∧ f i ≤ 0) := hs
    clear hs
    go_enter Try.func21, Try.ntmps21
    go_wp2
    go_loop [4] (fun i => ∃ k : Nat, k ≤ m + 1 ∧ i = .int .i64 k) (fun i => m + 1 - (intOf i).toNat)
    case atStart => exact ⟨0, Nat.zero_le _, rfl⟩
    case round =>
      obtain ⟨k, hk, rfl⟩ := hrel
      by_cases hlt : k < m + 1
      · have ck := HC.out k hlt
        have sk := HS.out k hlt
        go_wp2
        go_round
        case rel => exact ⟨k + 1, by omega, by go_num⟩
        case measure => simp [intOf]; omega
      · go_wp2
        go_ret
        exact ⟨rfl, rfl⟩
end Go.Proofs.Qxb6603934a.Norm
