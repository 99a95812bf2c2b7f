import Derived.Test.Qxb6603934aRows
import Derived.WalkKit
import Derived.WalkSpells
import Derived.WalkLawsBesides
import Derived.PlainAid
import Derived.Handy
import Derived.BigQuiet
import Derived.Deep.QuietTactic
import Derived.Test.Qxb6603934aArr
namespace Go.Proofs.Qxb6603934a.Norm
open Go.RowKit Go.Deep

def inDom (f : Nat → Int) (n : Nat) : Bool := decide (∀ i, i < n → -4611686018427387904 ≤ f i ∧ f i ≤ 4611686018427387904)

theorem inDom_no {f : Nat → Int} {n k : Nat} (hk : k < n) (h : ¬ (-4611686018427387904 ≤ f k ∧ f k ≤ 4611686018427387904)) : inDom f n = false := by
  unfold inDom
  exact decide_eq_false fun hall => h (hall k hk)
theorem inDom_yes {f : Nat → Int} {n : Nat} (h : ∀ i, i < n → -4611686018427387904 ≤ f i ∧ f i ≤ 4611686018427387904) : inDom f n = true := by
  unfold inDom
  exact decide_eq_true h

set_option maxHeartbeats 400000 in
theorem dom_any (v : Value) (n : Nat) (f : Nat → Int) (w : World) (hr : Reads .i64 w v n f) (hl : n ≤ 1048576) :
    Calls Try.prog 17 #[v] w fun e w' => e = .returned (.bool (inDom f n)) ∧ w' = w := by
  obtain ⟨ao, cap, rfl, _, hc⟩ := hr
  by_cases h0 : 0 < n
  · obtain ⟨b, off, rfl, hcl⟩ := hc h0
    clear hc
    go_enter Try.func17, Try.ntmps17
    go_wp2
    go_loop [3] (fun i => ∃ k : Nat, k ≤ n ∧ i = .int .i64 k ∧ ∀ j, j < k → -4611686018427387904 ≤ f j ∧ f j ≤ 4611686018427387904) (fun i => n - (intOf i).toNat)
    case atStart => exact ⟨0, Nat.zero_le _, rfl, fun j h => absurd h (by omega)⟩
    case round =>
      obtain ⟨k, hk, rfl, hd⟩ := hrel
      by_cases hlt : k < n
      · by_cases h1 : f k < -4611686018427387904
        · go_wp2
          go_ret
          exact ⟨by rw [inDom_no hlt (by omega)]; rfl, rfl⟩
        · by_cases h2 : 4611686018427387904 < f k
          · go_wp2
            go_ret
            exact ⟨by rw [inDom_no hlt (by omega)]; rfl, rfl⟩
          · go_wp2
            go_round
            case rel => exact ⟨k + 1, by omega, by go_num, fun j h => if e : j = k then by subst e; omega else hd j (by omega)⟩
            case measure => simp [intOf]; omega
      · go_wp2
        go_ret
        exact ⟨by rw [inDom_yes (fun i hi => hd i (by omega))]; rfl, rfl⟩
  · have hn : n = 0 := by omega
    subst hn
    go_enter Try.func17, Try.ntmps17
    go_wp2
    refine wp_loop_rounds 1 ?_
    rw [rounds_succ]
    go_wp2
    go_ret
    exact ⟨by rw [inDom_yes (fun i hi => absurd hi (by omega))]; rfl, rfl⟩

/-- Equal as the first n numbers. -/
def eqB (n m : Nat) (f g : Nat → Int) : Bool := decide (n = m ∧ ∀ i, i < n → f i = g i)
theorem eqB_yes {n : Nat} {f g : Nat → Int} (h : ∀ i, i < n → f i = g i) : eqB n n f g = true := decide_eq_true ⟨rfl, h⟩

set_option maxHeartbeats 400000 in
theorem eq_any (v u : Value) (n : Nat) (f g : Nat → Int) (w : World) (hr : Reads .i64 w v n f) (hs : Reads .i64 w u n g) (hl : n ≤ 1048576) (he : ∀ i, i < n → f i = g i) :
    Calls Try.prog 20 #[v, u] w fun e w' => e = .returned (.bool true) ∧ ∃ m, w' = w.drewN m := by
  obtain ⟨ao, cap, rfl, _, hc⟩ := hr
  obtain ⟨ao2, cap2, rfl, _, hc2⟩ := hs
  by_cases h0 : 0 < n
  · obtain ⟨b, off, rfl, hcl⟩ := hc h0
    obtain ⟨b2, off2, rfl, hcl2⟩ := hc2 h0
    clear hc hc2
    have HE : Hid (∀ i, i < n → f i = g i) := he
    clear he
    go_enter Try.func20, Try.ntmps20
    go_wp2
    go_loopw [5] (fun i wr => ∃ k m : Nat, k ≤ n ∧ i = .int .i64 k ∧ wr = w.drewN m) (fun i _ => n - (intOf i).toNat)
    case atStart => exact ⟨0, 0, Nat.zero_le _, rfl, rfl⟩
    case round =>
      obtain ⟨k, m, hk, rfl, rfl⟩ := hrel
      by_cases hlt : k < n
      · have e := HE.out k hlt
        have c1 := hcl k hlt
        have c2 := hcl2 k hlt
        rw [e] at c1
        have HC : Hid (∀ i, i < n → w.cell? ⟨b, off + i, none⟩ = some (.int .i64 (f i))) := hcl
        have HC2 : Hid (∀ i, i < n → w.cell? ⟨b2, off2 + i, none⟩ = some (.int .i64 (g i))) := hcl2
        clear hcl hcl2 e
        go_wp2
        go_quiet (fail)
        go_wp2
        go_roundw
        case rel => exact ⟨k + 1, _, by omega, by go_num, rfl⟩
        case measure => simp [intOf]; omega
      · go_wp2
        go_ret
        exact ⟨rfl, m, rfl⟩
  · have hn : n = 0 := by omega
    subst hn
    go_enter Try.func20, Try.ntmps20
    go_wp2
    refine wp_loop_rounds 1 ?_
    rw [rounds_succ]
    go_wp2
    go_ret
    exact ⟨rfl, 0, rfl⟩
end Go.Proofs.Qxb6603934a.Norm
