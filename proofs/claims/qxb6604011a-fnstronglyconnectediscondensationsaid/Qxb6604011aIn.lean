import Derived.Test.Qxb6604011aState
namespace Go.Proofs.Qxb6604011a.Scc
open Go.RowKit Go.Deep

/-! The argument as it came in, and the functions that only read it. -/
def RowsAt (w : World) (v : Value) (n : Nat) (deg : Nat → Nat) (tz : Nat → Nat → Int) : Prop :=
  ∃ (ao : Option Addr) (cap : Nat), v = .slice ao n cap ∧ (ao = none → cap = 0 ∧ n = 0) ∧
    (0 < n → ∃ b off, ao = some ⟨b, off, none⟩ ∧ ∀ i, i < n → ∃ ro rc, w.cell? ⟨b, off + i, none⟩ = some (.slice ro (deg i) rc) ∧ (ro = none → rc = 0 ∧ deg i = 0) ∧
      (0 < deg i → ∃ rb rf, ro = some ⟨rb, rf, none⟩ ∧ ∀ k, k < deg i → w.cell? ⟨rb, rf + k, none⟩ = some (.int .i64 (tz i k))))

def Tells (w : World) (e : Ending) (w' : World) : Prop := w' = w ∧ ∃ b, e = .returned (.bool b)
def Ranged (w : World) (n : Nat) (deg : Nat → Nat) (tz : Nat → Nat → Int) (e : Ending) (w' : World) : Prop :=
  w' = w ∧ ((e = .returned (.bool false)) ∨ (e = .returned (.bool true) ∧ ∀ i k, i < n → k < deg i → 0 ≤ tz i k ∧ tz i k < n))

set_option maxHeartbeats 400000 in
theorem bytes13 (w : World) (v : Value) (n : Nat) (deg : Nat → Nat) (tz : Nat → Nat → Int) (hr : RowsAt w v n deg tz) : Calls Try.prog 13 #[v] w (Tells w) := by
  obtain ⟨ao, cap, rfl, _, hg⟩ := hr
  by_cases hn : n ≤ 1048576
  · by_cases hn0 : 0 < n
    · obtain ⟨b, off, rfl, hrow⟩ := hg hn0
      have HR : Hid (∀ i, i < n → ∃ ro rc, w.cell? ⟨b, off + i, none⟩ = some (.slice ro (deg i) rc)) := fun i hi => by
        obtain ⟨ro, rc, h, _⟩ := hrow i hi
        exact ⟨ro, rc, h⟩
      clear hg hrow
      go_enter Try.func13, Try.ntmps13
      go_wp2
      go_loop [3, 4] (fun z i => ∃ k y : Nat, k ≤ n ∧ i = .int .i64 k ∧ z = .int .i64 y ∧ y ≤ 1048576) (fun _ i => n - (intOf i).toNat)
      case atStart => exact ⟨0, n, Nat.zero_le _, rfl, by go_num, hn⟩
      case round =>
        obtain ⟨k, y, hk, rfl, rfl, hy⟩ := hrel
        by_cases hlt : k < n
        · obtain ⟨ro, rc, hc⟩ := HR.out k hlt
          by_cases h1 : deg k ≤ 1048576
          · by_cases h2 : y + deg k ≤ 1048576
            · go_wp2
              go_round
              case rel => exact ⟨k + 1, y + deg k, by omega, by go_num, by go_num, h2⟩
              case measure => simp [intOf]; omega
            · go_wp2
              go_ret
              exact ⟨rfl, _, rfl⟩
          · go_wp2
            go_ret
            exact ⟨rfl, _, rfl⟩
        · go_wp2
          go_ret
          exact ⟨rfl, _, rfl⟩
    · have h0 : n = 0 := by omega
      subst h0
      clear hg
      go_enter Try.func13, Try.ntmps13
      go_wp2
      refine wp_loop_rounds 1 ?_
      rw [rounds_succ]
      go_wp2
      go_ret
      exact ⟨rfl, _, rfl⟩
  · clear hg
    go_enter Try.func13, Try.ntmps13
    go_wp2
    go_ret
    exact ⟨rfl, _, rfl⟩

set_option maxHeartbeats 400000 in
theorem bytes5 (w : World) (v : Value) (n : Nat) (deg : Nat → Nat) (tz : Nat → Nat → Int) (hr : RowsAt w v n deg tz) : Calls Try.prog 5 #[v] w (Tells w) := by
  obtain ⟨ao, cap, rfl, _, hg⟩ := hr
  by_cases hn : n ≤ 1048576
  · by_cases hn0 : 0 < n
    · obtain ⟨b, off, rfl, hrow⟩ := hg hn0
      have HR : Hid (∀ i, i < n → ∃ ro rc, w.cell? ⟨b, off + i, none⟩ = some (.slice ro (deg i) rc)) := fun i hi => by
        obtain ⟨ro, rc, h, _⟩ := hrow i hi
        exact ⟨ro, rc, h⟩
      clear hg hrow
      go_enter Try.func5, Try.ntmps5
      go_wp2
      go_loop [3, 4] (fun z i => ∃ k y : Nat, k ≤ n ∧ i = .int .i64 k ∧ z = .int .i64 y ∧ y ≤ 1048576) (fun _ i => n - (intOf i).toNat)
      case atStart => exact ⟨0, n, Nat.zero_le _, rfl, by go_num, hn⟩
      case round =>
        obtain ⟨k, y, hk, rfl, rfl, hy⟩ := hrel
        by_cases hlt : k < n
        · obtain ⟨ro, rc, hc⟩ := HR.out k hlt
          by_cases h1 : deg k ≤ 1048576
          · by_cases h2 : y + deg k ≤ 1048576
            · go_wp2
              go_round
              case rel => exact ⟨k + 1, y + deg k, by omega, by go_num, by go_num, h2⟩
              case measure => simp [intOf]; omega
            · go_wp2
              go_ret
              exact ⟨rfl, _, rfl⟩
          · go_wp2
            go_ret
            exact ⟨rfl, _, rfl⟩
        · go_wp2
          go_ret
          exact ⟨rfl, _, rfl⟩
    · have h0 : n = 0 := by omega
      subst h0
      clear hg
      go_enter Try.func5, Try.ntmps5
      go_wp2
      refine wp_loop_rounds 1 ?_
      rw [rounds_succ]
      go_wp2
      go_ret
      exact ⟨rfl, _, rfl⟩
  · clear hg
    go_enter Try.func5, Try.ntmps5
    go_wp2
    go_ret
    exact ⟨rfl, _, rfl⟩

set_option maxHeartbeats 400000 in
theorem range6 (w : World) (v : Value) (n : Nat) (deg : Nat → Nat) (tz : Nat → Nat → Int) (hr : RowsAt w v n deg tz) (hn : n ≤ 1048576) (hd : ∀ i, i < n → deg i ≤ 1048576) : Calls Try.prog 6 #[v] w (Ranged w n deg tz) := by
  obtain ⟨ao, cap, rfl, _, hg⟩ := hr
  by_cases hn0 : 0 < n
  · obtain ⟨b, off, rfl, hrow⟩ := hg hn0
    have HR : Hid (∀ i, i < n → ∃ ro rc, w.cell? ⟨b, off + i, none⟩ = some (.slice ro (deg i) rc) ∧ (ro = none → rc = 0 ∧ deg i = 0) ∧
      (0 < deg i → ∃ rb rf, ro = some ⟨rb, rf, none⟩ ∧ ∀ k, k < deg i → w.cell? ⟨rb, rf + k, none⟩ = some (.int .i64 (tz i k)))) := hrow
    have HD : Hid (∀ i, i < n → deg i ≤ 1048576) := hd
    clear hg hrow hd
    go_enter Try.func6, Try.ntmps6
    go_wp2
    go_loop [3] (fun i => ∃ k : Nat, k ≤ n ∧ i = .int .i64 k ∧ ∀ i j, i < k → j < deg i → 0 ≤ tz i j ∧ tz i j < n) (fun i => n - (intOf i).toNat)
    case atStart => exact ⟨0, Nat.zero_le _, rfl, fun i j h => absurd h (by omega)⟩
    case round =>
      obtain ⟨k, hk, rfl, hall⟩ := hrel
      have HA : Hid (∀ i j, i < k → j < deg i → 0 ≤ tz i j ∧ tz i j < n) := hall
      clear hall
      by_cases hlt : k < n
      · obtain ⟨ro, rc, hc, hno, hce⟩ := HR.out k hlt
        have HC : Hid (0 < deg k → ∃ rb rf, ro = some ⟨rb, rf, none⟩ ∧ ∀ j, j < deg k → w.cell? ⟨rb, rf + j, none⟩ = some (.int .i64 (tz k j))) := hce
        have hdk := HD.out k hlt
        clear hno hce
        go_wp2
        go_loop [4] (fun i => ∃ j : Nat, j ≤ deg k ∧ i = .int .i64 j ∧ ∀ i, i < j → 0 ≤ tz k i ∧ tz k i < n) (fun i => deg k - (intOf i).toNat)
        case atStart => exact ⟨0, Nat.zero_le _, rfl, fun i h => absurd h (by omega)⟩
        case round =>
          obtain ⟨j, hj, rfl, hin⟩ := hrel
          have HI : Hid (∀ i, i < j → 0 ≤ tz k i ∧ tz k i < n) := hin
          clear hin
          by_cases hjl : j < deg k
          · obtain ⟨rb, rf, hro, hcells⟩ := HC.out (by omega)
            subst hro
            have hcj := hcells j hjl
            clear hcells
            by_cases h1 : tz k j < 0
            · go_wp2
              go_ret
              exact ⟨rfl, Or.inl rfl⟩
            · by_cases h2 : (n : Int) ≤ tz k j
              · go_wp2
                go_ret
                exact ⟨rfl, Or.inl rfl⟩
              · go_wp2
                go_round
                case rel => exact ⟨j + 1, by omega, by go_num, fun i hi => if e : i = j then by subst e; omega else HI.out i (by omega)⟩
                case measure => simp [intOf]; omega
          · have hje : deg k = j := by omega
            go_wp2
            go_round
            case rel => exact ⟨k + 1, by omega, by go_num, fun i x hi hx => if e : i = k then by subst e; exact HI.out x (by omega) else HA.out i x (by omega) hx⟩
            case measure => simp [intOf]; omega
      · go_wp2
        go_ret
        exact ⟨rfl, Or.inr ⟨rfl, fun i j hi hj => HA.out i j (by omega) hj⟩⟩
  · have h0 : n = 0 := by omega
    subst h0
    clear hg
    go_enter Try.func6, Try.ntmps6
    go_wp2
    refine wp_loop_rounds 1 ?_
    rw [rounds_succ]
    go_wp2
    go_ret
    exact ⟨rfl, Or.inr ⟨rfl, fun i j hi => absurd hi (by omega)⟩⟩
end Go.Proofs.Qxb6604011a.Scc
