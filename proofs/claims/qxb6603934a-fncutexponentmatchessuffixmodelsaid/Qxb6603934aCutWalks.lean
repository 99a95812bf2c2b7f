import Derived.Test.Qxb6603934aRows
import Derived.WalkKit
import Derived.WalkSpells
import Derived.WalkLawsBesides
import Derived.PlainAid
import Derived.Handy
import Derived.Deep.DeepCutAuto
import Derived.Lib.MinMax
import Derived.Lib.Strings
import Derived.Test.Qxb6603934aCutPlain
namespace Go.Proofs.Qxb6603934a.Cut
open Go.RowKit Go.PlainAid Go.Proofs.Qxb6603934a.Scan

/-- d begins with the byte c. -/
def starts (d : ByteArray) (c : Int) : Bool := decide (0 < d.size ∧ bt d 0 = c)

theorem first_byte (d : ByteArray) (h : 0 < d.size) (c : UInt8) : ((d.extract 0 1).toList == [c]) = starts d c.toNat := by
  have e1 : (d.extract 0 1).toList = [d[0]] := by
    rw [ByteArray.toList_eq, Lib.extract_data]
    obtain ⟨⟨l⟩⟩ := d
    match l, h with
    | a :: l, _ => rfl
  rw [e1]
  unfold starts bt
  rw [dif_pos h, Bool.eq_iff_iff]
  simp only [beq_iff_eq, List.cons.injEq, and_true, decide_eq_true_eq]
  constructor
  · intro hc; exact ⟨h, by rw [hc]⟩
  · rintro ⟨_, hc⟩; exact UInt8.toNat_inj.1 (by omega)

theorem hasLite (d : ByteArray) (c : UInt8) (w : World) (hs : d.size ≤ 1048576) :
    Calls Try.prog 31 #[.string d, .string ⟨#[c]⟩] w fun e w' => e = .returned (.bool (starts d c.toNat)) ∧ w' = w := by
  by_cases h : 0 < d.size
  · have h' : (1 : Int) ≤ d.size := by omega
    have h2 := first_byte d h c
    go_enter Try.func31, Try.ntmps31
    go_wp2
    go_ret
    exact ⟨rfl, rfl⟩
  · have h' : ¬ (1 : Int) ≤ d.size := by omega
    have h2 : starts d c.toNat = false := by unfold starts; simp; omega
    go_enter Try.func31, Try.ntmps31
    go_wp2
    go_ret
    exact ⟨rfl, rfl⟩

theorem hasPre (d : ByteArray) (c : UInt8) (k : Int) (hk : (c.toNat : Int) = k) (w : World) (hs : d.size ≤ 1048576) :
    Calls Try.prog 28 #[.string d, .string ⟨#[c]⟩] w fun e w' => e = .returned (.bool (starts d k)) ∧ w' = w := by
  subst hk
  go_enter Try.func28, Try.ntmps28
  go_wp2_with (go_at_call 31; refine (hasLite d c _ hs).mono ?_; rintro e w' ⟨rfl, rfl⟩)
  go_ret
  exact ⟨rfl, rfl⟩

theorem part (s : ByteArray) (o : Nat) : (s.extract o s.size).size = s.size - o ∧ ∀ t, t < s.size - o → bt (s.extract o s.size) t = bt s (o + t) :=
  ⟨by simp, fun t h => bt_extract s o s.size t h (Nat.le_refl _)⟩

/-- What cutExponent hands back. -/
def GaveC (s : ByteArray) (w : World) (e : Ending) (w' : World) : Prop :=
  ∃ k v, e = .returned (.tuple #[.string (s.extract 0 k), .int .i32 v]) ∧ CutR (bt s) s.size k v ∧ w' = w

theorem gaveC_no {s : ByteArray} {w : World} (h : CutR (bt s) s.size s.size 0) : GaveC s w (.returned (.tuple #[.string s, .int .i32 0])) w :=
  ⟨s.size, 0, by simp, h, rfl⟩

theorem val_bound3 {f : Nat → Int} {k : Nat} (hk : k ≤ 3) (h : ∀ i, i < k → dig (f i)) : 0 ≤ val f k ∧ val f k ≤ 999 ∧ (k ≤ 2 → val f k ≤ 99) := by
  have h1 := pow_bound k h
  match k, hk with
  | 0, _ => simp at h1; omega
  | 1, _ => simp at h1; omega
  | 2, _ => simp at h1; omega
  | 3, _ => simp at h1; omega

theorem starts_size {D : ByteArray} {c : Int} (h : starts D c = true) : 0 < D.size := by unfold starts at h; simp at h; exact h.1
theorem starts_bt {D : ByteArray} {c : Int} (h : starts D c = true) : bt D 0 = c := by unfold starts at h; simp at h; exact h.2
theorem starts_not {D : ByteArray} {c : Int} (h : starts D c = false) : ¬ (0 < D.size ∧ bt D 0 = c) := by unfold starts at h; simpa using h

theorem sign_none {s D : ByteArray} {i : Nat} (A : D.size = s.size - (i + 1) ∧ ∀ t, t < s.size - (i + 1) → bt D t = bt s (i + 1 + t)) (h45 : starts D 45 = false) (h43 : starts D 43 = false) :
    Sign (bt s) s.size i (i + 1) false := by
  refine Or.inl ⟨rfl, rfl, ?_⟩
  rintro ⟨h1, h2⟩
  have := A.2 0 (by omega)
  rcases h2 with h | h
  · exact starts_not h43 ⟨by omega, by rw [this]; exact h⟩
  · exact starts_not h45 ⟨by omega, by rw [this]; exact h⟩
theorem sign_plus {s D : ByteArray} {i : Nat} (A : D.size = s.size - (i + 1) ∧ ∀ t, t < s.size - (i + 1) → bt D t = bt s (i + 1 + t)) (h43 : starts D 43 = true) :
    Sign (bt s) s.size i (i + 2) false := by
  have h1 := starts_size h43
  have h2 := starts_bt h43
  rw [A.2 0 (by omega)] at h2
  exact Or.inr ⟨rfl, by omega, Or.inl ⟨h2, rfl⟩⟩
theorem sign_minus {s D : ByteArray} {i : Nat} (A : D.size = s.size - (i + 1) ∧ ∀ t, t < s.size - (i + 1) → bt D t = bt s (i + 1 + t)) (h45 : starts D 45 = true) :
    Sign (bt s) s.size i (i + 2) true := by
  have h1 := starts_size h45
  have h2 := starts_bt h45
  rw [A.2 0 (by omega)] at h2
  exact Or.inr ⟨rfl, by omega, Or.inr ⟨h2, rfl⟩⟩
theorem part_more {s D : ByteArray} {i : Nat} (A : D.size = s.size - (i + 1) ∧ ∀ t, t < s.size - (i + 1) → bt D t = bt s (i + 1 + t)) (h : 0 < D.size) :
    (D.extract 1 D.size).size = s.size - (i + 2) ∧ ∀ t, t < s.size - (i + 2) → bt (D.extract 1 D.size) t = bt s (i + 2 + t) := by
  have B := part D 1
  refine ⟨by rw [B.1]; omega, fun t ht => ?_⟩
  rw [B.2 t (by omega), A.2 (1 + t) (by omega)]
  congr 1; omega

set_option maxHeartbeats 2000000 in
theorem cut_any (s : ByteArray) (w : World) (hs : s.size ≤ maxLen) (h20 : s.size ≤ 2097152) :
    Calls Try.prog 24 #[.string s] w (GaveC s w) := by
  unfold maxLen at hs
  have hb := get_bt s
  go_enter Try.func24, Try.ntmps24
  go_wp2
  go_loop [4, 5] (fun e i => ∃ j : Nat, j ≤ s.size ∧ s.size ≤ j + 5 ∧ e = .int .i64 (-1) ∧ i = .int .i64 ((j : Int) - 1) ∧ ∀ t, j ≤ t → t < s.size → ¬ isE (bt s t)) (fun _ i => (intOf i + 1).toNat)
  case atStart => exact ⟨s.size, by omega, by omega, rfl, rfl, fun t h1 h2 => absurd h1 (by omega)⟩
  case round =>
    obtain ⟨j, hjn, hj5, rfl, rfl, hno⟩ := hrel
    by_cases hlt : 0 < j ∧ s.size < j + 5
    · obtain ⟨i, rfl⟩ : ∃ i, j = i + 1 := ⟨j - 1, by omega⟩
      rw [show ((i + 1 : Nat) : Int) - 1 = i by omega]
      have hm : max 0 ((s.size : Int) - 3 - 2) ≤ (i : Int) := by omega
      have hin : i < s.size := by omega
      by_cases hE : isE (bt s i)
      · have hr : ∀ t, i < t → t < s.size → ¬ isE (bt s t) := fun t h1 h2 => hno t (by omega) h2
        clear hno
        rcases hE with h69 | h101
        · skip
          go_wp2_with fail
          have A := part s (i + 1)
          generalize s.extract (i + 1) s.size = D at A
          have hb2 := get_bt D
          have hE : isE (bt s i) := Or.inl h69
          have hD1 : D.size ≤ 4 := by omega
          have HA : Hid (D.size = s.size - (i + 1) ∧ ∀ t, t < s.size - (i + 1) → bt D t = bt s (i + 1 + t)) := A
          clear A
          cases h45 : starts D 45
          · refine (hasPre D 45 45 rfl _ (by omega)).mono ?_
            rintro e w1 ⟨rfl, rfl⟩
            rw [h45]
            go_wp2_with fail
            cases h43 : starts D 43
            · refine (hasPre D 43 43 rfl _ (by omega)).mono ?_
              rintro e w1 ⟨rfl, rfl⟩
              rw [h43]
              have hS := sign_none HA.out h45 h43
              by_cases hz : D.size = 0
              · have hDe : D.toList.isEmpty = true := by rw [ByteArray.toList_eq, List.isEmpty_iff_length_eq_zero]; exact hz
                go_wp2
                go_ret2
                exact gaveC_no (cutR_bad hE hin hr hS (Or.inl (by have := HA.out.1; omega)))
              · have hDe : D.toList.isEmpty = false := by rw [ByteArray.toList_eq, ← Bool.not_eq_true, List.isEmpty_iff_length_eq_zero]; exact hz
                by_cases h3 : D.size ≤ 3
                · have H3 : Hid (D.size ≤ 3) := h3
                  go_wp2
                  go_loop [3, 8] (fun sh i => ∃ k : Nat, k ≤ D.size ∧ i = .int .i64 k ∧ sh = .int .i32 (val (bt D) k) ∧ ∀ t, t < k → dig (bt D t)) (fun _ i => D.size - (intOf i).toNat)
                  case atStart => exact ⟨0, Nat.zero_le _, rfl, rfl, fun t h => absurd h (by omega)⟩
                  case round =>
                    obtain ⟨k, hk, rfl, rfl, hdg⟩ := hrel
                    have v1 := val_bound3 (f := bt D) (k := k) (by omega) hdg
                    have n1 := bt_nonneg D k
                    have n2 := bt_le D k
                    by_cases hlt2 : k < D.size
                    · by_cases hd : 48 ≤ bt D k ∧ bt D k ≤ 57
                      · go_wp2
                        go_round
                        case rel => exact ⟨k + 1, by omega, by go_num, rfl, fun t h => if e : t = k then by subst e; exact hd else hdg t (by omega)⟩
                        case measure => simp [intOf]; omega
                      · by_cases hd0 : bt D k < 48
                        · go_wp2
                          go_ret2
                          exact gaveC_no (cutR_bad hE hin hr hS (Or.inr (Or.inr ⟨k, by have := HA.out.1; omega, by rw [← HA.out.2 k (by have := HA.out.1; omega)]; exact hd⟩)))
                        · go_wp2
                          go_ret2
                          exact gaveC_no (cutR_bad hE hin hr hS (Or.inr (Or.inr ⟨k, by have := HA.out.1; omega, by rw [← HA.out.2 k (by have := HA.out.1; omega)]; exact hd⟩)))
                    · have hkD : k = D.size := by omega
                      subst hkD
                      have hR : Hid (CutR (bt s) s.size i (sgn false (val (bt D) D.size))) :=
                        cutR_yes hE hin hS (by have := HA.out.1; omega) (by have := HA.out.1; omega) (fun t h => by rw [← HA.out.2 t h]; exact hdg t (by have := HA.out.1; omega)) (by rw [← HA.out.1]; exact val_congr _ (fun t h => HA.out.2 t (by have := HA.out.1; omega)))
                      go_wp2
                      go_ret2
                      exact ⟨i, _, rfl, hR.out, rfl⟩
                · go_wp2
                  go_ret2
                  exact gaveC_no (cutR_bad hE hin hr hS (Or.inr (Or.inl (by have := HA.out.1; omega))))
            · refine (hasPre D 43 43 rfl _ (by omega)).mono ?_
              rintro e w1 ⟨rfl, rfl⟩
              rw [h43]
              have hS := sign_plus HA.out h43
              have hA2 := part_more HA.out (starts_size h43)
              have hsz := starts_size h43
              go_upto_region 13 with fail
              generalize D.extract 1 D.size = D2 at hA2
              have hb3 := get_bt D2
              have hD2 : D2.size ≤ 4 := by omega
              clear HA hb2
              have HA : Hid (D2.size = s.size - (i + 2) ∧ ∀ t, t < s.size - (i + 2) → bt D2 t = bt s (i + 2 + t)) := hA2
              clear hA2
              by_cases hz : D2.size = 0
              · have hDe : D2.toList.isEmpty = true := by rw [ByteArray.toList_eq, List.isEmpty_iff_length_eq_zero]; exact hz
                go_wp2
                go_ret2
                exact gaveC_no (cutR_bad hE hin hr hS (Or.inl (by have := HA.out.1; omega)))
              · have hDe : D2.toList.isEmpty = false := by rw [ByteArray.toList_eq, ← Bool.not_eq_true, List.isEmpty_iff_length_eq_zero]; exact hz
                by_cases h3 : D2.size ≤ 3
                · have H3 : Hid (D2.size ≤ 3) := h3
                  go_wp2
                  go_loop [3, 8] (fun sh i => ∃ k : Nat, k ≤ D2.size ∧ i = .int .i64 k ∧ sh = .int .i32 (val (bt D2) k) ∧ ∀ t, t < k → dig (bt D2 t)) (fun _ i => D2.size - (intOf i).toNat)
                  case atStart => exact ⟨0, Nat.zero_le _, rfl, rfl, fun t h => absurd h (by omega)⟩
                  case round =>
                    obtain ⟨k, hk, rfl, rfl, hdg⟩ := hrel
                    have v1 := val_bound3 (f := bt D2) (k := k) (by omega) hdg
                    have n1 := bt_nonneg D2 k
                    have n2 := bt_le D2 k
                    by_cases hlt2 : k < D2.size
                    · by_cases hd : 48 ≤ bt D2 k ∧ bt D2 k ≤ 57
                      · go_wp2
                        go_round
                        case rel => exact ⟨k + 1, by omega, by go_num, rfl, fun t h => if e : t = k then by subst e; exact hd else hdg t (by omega)⟩
                        case measure => simp [intOf]; omega
                      · by_cases hd0 : bt D2 k < 48
                        · go_wp2
                          go_ret2
                          exact gaveC_no (cutR_bad hE hin hr hS (Or.inr (Or.inr ⟨k, by have := HA.out.1; omega, by rw [← HA.out.2 k (by have := HA.out.1; omega)]; exact hd⟩)))
                        · go_wp2
                          go_ret2
                          exact gaveC_no (cutR_bad hE hin hr hS (Or.inr (Or.inr ⟨k, by have := HA.out.1; omega, by rw [← HA.out.2 k (by have := HA.out.1; omega)]; exact hd⟩)))
                    · have hkD : k = D2.size := by omega
                      subst hkD
                      have hR : Hid (CutR (bt s) s.size i (sgn false (val (bt D2) D2.size))) :=
                        cutR_yes hE hin hS (by have := HA.out.1; omega) (by have := HA.out.1; omega) (fun t h => by rw [← HA.out.2 t h]; exact hdg t (by have := HA.out.1; omega)) (by rw [← HA.out.1]; exact val_congr _ (fun t h => HA.out.2 t (by have := HA.out.1; omega)))
                      go_wp2
                      go_ret2
                      exact ⟨i, _, rfl, hR.out, rfl⟩
                · go_wp2
                  go_ret2
                  exact gaveC_no (cutR_bad hE hin hr hS (Or.inr (Or.inl (by have := HA.out.1; omega))))
          · refine (hasPre D 45 45 rfl _ (by omega)).mono ?_
            rintro e w1 ⟨rfl, rfl⟩
            rw [h45]
            have hS := sign_minus HA.out h45
            have hA2 := part_more HA.out (starts_size h45)
            have hsz := starts_size h45
            go_upto_region 13 with fail
            generalize D.extract 1 D.size = D2 at hA2
            have hb3 := get_bt D2
            have hD2 : D2.size ≤ 4 := by omega
            clear HA hb2
            have HA : Hid (D2.size = s.size - (i + 2) ∧ ∀ t, t < s.size - (i + 2) → bt D2 t = bt s (i + 2 + t)) := hA2
            clear hA2
            by_cases hz : D2.size = 0
            · have hDe : D2.toList.isEmpty = true := by rw [ByteArray.toList_eq, List.isEmpty_iff_length_eq_zero]; exact hz
              go_wp2
              go_ret2
              exact gaveC_no (cutR_bad hE hin hr hS (Or.inl (by have := HA.out.1; omega)))
            · have hDe : D2.toList.isEmpty = false := by rw [ByteArray.toList_eq, ← Bool.not_eq_true, List.isEmpty_iff_length_eq_zero]; exact hz
              by_cases h3 : D2.size ≤ 3
              · have H3 : Hid (D2.size ≤ 3) := h3
                go_wp2
                go_loop [3, 8] (fun sh i => ∃ k : Nat, k ≤ D2.size ∧ i = .int .i64 k ∧ sh = .int .i32 (val (bt D2) k) ∧ ∀ t, t < k → dig (bt D2 t)) (fun _ i => D2.size - (intOf i).toNat)
                case atStart => exact ⟨0, Nat.zero_le _, rfl, rfl, fun t h => absurd h (by omega)⟩
                case round =>
                  obtain ⟨k, hk, rfl, rfl, hdg⟩ := hrel
                  have v1 := val_bound3 (f := bt D2) (k := k) (by omega) hdg
                  have n1 := bt_nonneg D2 k
                  have n2 := bt_le D2 k
                  by_cases hlt2 : k < D2.size
                  · by_cases hd : 48 ≤ bt D2 k ∧ bt D2 k ≤ 57
                    · go_wp2
                      go_round
                      case rel => exact ⟨k + 1, by omega, by go_num, rfl, fun t h => if e : t = k then by subst e; exact hd else hdg t (by omega)⟩
                      case measure => simp [intOf]; omega
                    · by_cases hd0 : bt D2 k < 48
                      · go_wp2
                        go_ret2
                        exact gaveC_no (cutR_bad hE hin hr hS (Or.inr (Or.inr ⟨k, by have := HA.out.1; omega, by rw [← HA.out.2 k (by have := HA.out.1; omega)]; exact hd⟩)))
                      · go_wp2
                        go_ret2
                        exact gaveC_no (cutR_bad hE hin hr hS (Or.inr (Or.inr ⟨k, by have := HA.out.1; omega, by rw [← HA.out.2 k (by have := HA.out.1; omega)]; exact hd⟩)))
                  · have hkD : k = D2.size := by omega
                    subst hkD
                    have hR : Hid (CutR (bt s) s.size i (sgn true (val (bt D2) D2.size))) :=
                      cutR_yes hE hin hS (by have := HA.out.1; omega) (by have := HA.out.1; omega) (fun t h => by rw [← HA.out.2 t h]; exact hdg t (by have := HA.out.1; omega)) (by rw [← HA.out.1]; exact val_congr _ (fun t h => HA.out.2 t (by have := HA.out.1; omega)))
                    go_wp2
                    go_ret2
                    exact ⟨i, _, rfl, hR.out, rfl⟩
              · go_wp2
                go_ret2
                exact gaveC_no (cutR_bad hE hin hr hS (Or.inr (Or.inl (by have := HA.out.1; omega))))
        · skip
          go_wp2_with fail
          have A := part s (i + 1)
          generalize s.extract (i + 1) s.size = D at A
          have hb2 := get_bt D
          have hE : isE (bt s i) := Or.inr h101
          have hD1 : D.size ≤ 4 := by omega
          have HA : Hid (D.size = s.size - (i + 1) ∧ ∀ t, t < s.size - (i + 1) → bt D t = bt s (i + 1 + t)) := A
          clear A
          cases h45 : starts D 45
          · refine (hasPre D 45 45 rfl _ (by omega)).mono ?_
            rintro e w1 ⟨rfl, rfl⟩
            rw [h45]
            go_wp2_with fail
            cases h43 : starts D 43
            · refine (hasPre D 43 43 rfl _ (by omega)).mono ?_
              rintro e w1 ⟨rfl, rfl⟩
              rw [h43]
              have hS := sign_none HA.out h45 h43
              by_cases hz : D.size = 0
              · have hDe : D.toList.isEmpty = true := by rw [ByteArray.toList_eq, List.isEmpty_iff_length_eq_zero]; exact hz
                go_wp2
                go_ret2
                exact gaveC_no (cutR_bad hE hin hr hS (Or.inl (by have := HA.out.1; omega)))
              · have hDe : D.toList.isEmpty = false := by rw [ByteArray.toList_eq, ← Bool.not_eq_true, List.isEmpty_iff_length_eq_zero]; exact hz
                by_cases h3 : D.size ≤ 3
                · have H3 : Hid (D.size ≤ 3) := h3
                  go_wp2
                  go_loop [3, 8] (fun sh i => ∃ k : Nat, k ≤ D.size ∧ i = .int .i64 k ∧ sh = .int .i32 (val (bt D) k) ∧ ∀ t, t < k → dig (bt D t)) (fun _ i => D.size - (intOf i).toNat)
                  case atStart => exact ⟨0, Nat.zero_le _, rfl, rfl, fun t h => absurd h (by omega)⟩
                  case round =>
                    obtain ⟨k, hk, rfl, rfl, hdg⟩ := hrel
                    have v1 := val_bound3 (f := bt D) (k := k) (by omega) hdg
                    have n1 := bt_nonneg D k
                    have n2 := bt_le D k
                    by_cases hlt2 : k < D.size
                    · by_cases hd : 48 ≤ bt D k ∧ bt D k ≤ 57
                      · go_wp2
                        go_round
                        case rel => exact ⟨k + 1, by omega, by go_num, rfl, fun t h => if e : t = k then by subst e; exact hd else hdg t (by omega)⟩
                        case measure => simp [intOf]; omega
                      · by_cases hd0 : bt D k < 48
                        · go_wp2
                          go_ret2
                          exact gaveC_no (cutR_bad hE hin hr hS (Or.inr (Or.inr ⟨k, by have := HA.out.1; omega, by rw [← HA.out.2 k (by have := HA.out.1; omega)]; exact hd⟩)))
                        · go_wp2
                          go_ret2
                          exact gaveC_no (cutR_bad hE hin hr hS (Or.inr (Or.inr ⟨k, by have := HA.out.1; omega, by rw [← HA.out.2 k (by have := HA.out.1; omega)]; exact hd⟩)))
                    · have hkD : k = D.size := by omega
                      subst hkD
                      have hR : Hid (CutR (bt s) s.size i (sgn false (val (bt D) D.size))) :=
                        cutR_yes hE hin hS (by have := HA.out.1; omega) (by have := HA.out.1; omega) (fun t h => by rw [← HA.out.2 t h]; exact hdg t (by have := HA.out.1; omega)) (by rw [← HA.out.1]; exact val_congr _ (fun t h => HA.out.2 t (by have := HA.out.1; omega)))
                      go_wp2
                      go_ret2
                      exact ⟨i, _, rfl, hR.out, rfl⟩
                · go_wp2
                  go_ret2
                  exact gaveC_no (cutR_bad hE hin hr hS (Or.inr (Or.inl (by have := HA.out.1; omega))))
            · refine (hasPre D 43 43 rfl _ (by omega)).mono ?_
              rintro e w1 ⟨rfl, rfl⟩
              rw [h43]
              have hS := sign_plus HA.out h43
              have hA2 := part_more HA.out (starts_size h43)
              have hsz := starts_size h43
              go_upto_region 13 with fail
              generalize D.extract 1 D.size = D2 at hA2
              have hb3 := get_bt D2
              have hD2 : D2.size ≤ 4 := by omega
              clear HA hb2
              have HA : Hid (D2.size = s.size - (i + 2) ∧ ∀ t, t < s.size - (i + 2) → bt D2 t = bt s (i + 2 + t)) := hA2
              clear hA2
              by_cases hz : D2.size = 0
              · have hDe : D2.toList.isEmpty = true := by rw [ByteArray.toList_eq, List.isEmpty_iff_length_eq_zero]; exact hz
                go_wp2
                go_ret2
                exact gaveC_no (cutR_bad hE hin hr hS (Or.inl (by have := HA.out.1; omega)))
              · have hDe : D2.toList.isEmpty = false := by rw [ByteArray.toList_eq, ← Bool.not_eq_true, List.isEmpty_iff_length_eq_zero]; exact hz
                by_cases h3 : D2.size ≤ 3
                · have H3 : Hid (D2.size ≤ 3) := h3
                  go_wp2
                  go_loop [3, 8] (fun sh i => ∃ k : Nat, k ≤ D2.size ∧ i = .int .i64 k ∧ sh = .int .i32 (val (bt D2) k) ∧ ∀ t, t < k → dig (bt D2 t)) (fun _ i => D2.size - (intOf i).toNat)
                  case atStart => exact ⟨0, Nat.zero_le _, rfl, rfl, fun t h => absurd h (by omega)⟩
                  case round =>
                    obtain ⟨k, hk, rfl, rfl, hdg⟩ := hrel
                    have v1 := val_bound3 (f := bt D2) (k := k) (by omega) hdg
                    have n1 := bt_nonneg D2 k
                    have n2 := bt_le D2 k
                    by_cases hlt2 : k < D2.size
                    · by_cases hd : 48 ≤ bt D2 k ∧ bt D2 k ≤ 57
                      · go_wp2
                        go_round
                        case rel => exact ⟨k + 1, by omega, by go_num, rfl, fun t h => if e : t = k then by subst e; exact hd else hdg t (by omega)⟩
                        case measure => simp [intOf]; omega
                      · by_cases hd0 : bt D2 k < 48
                        · go_wp2
                          go_ret2
                          exact gaveC_no (cutR_bad hE hin hr hS (Or.inr (Or.inr ⟨k, by have := HA.out.1; omega, by rw [← HA.out.2 k (by have := HA.out.1; omega)]; exact hd⟩)))
                        · go_wp2
                          go_ret2
                          exact gaveC_no (cutR_bad hE hin hr hS (Or.inr (Or.inr ⟨k, by have := HA.out.1; omega, by rw [← HA.out.2 k (by have := HA.out.1; omega)]; exact hd⟩)))
                    · have hkD : k = D2.size := by omega
                      subst hkD
                      have hR : Hid (CutR (bt s) s.size i (sgn false (val (bt D2) D2.size))) :=
                        cutR_yes hE hin hS (by have := HA.out.1; omega) (by have := HA.out.1; omega) (fun t h => by rw [← HA.out.2 t h]; exact hdg t (by have := HA.out.1; omega)) (by rw [← HA.out.1]; exact val_congr _ (fun t h => HA.out.2 t (by have := HA.out.1; omega)))
                      go_wp2
                      go_ret2
                      exact ⟨i, _, rfl, hR.out, rfl⟩
                · go_wp2
                  go_ret2
                  exact gaveC_no (cutR_bad hE hin hr hS (Or.inr (Or.inl (by have := HA.out.1; omega))))
          · refine (hasPre D 45 45 rfl _ (by omega)).mono ?_
            rintro e w1 ⟨rfl, rfl⟩
            rw [h45]
            have hS := sign_minus HA.out h45
            have hA2 := part_more HA.out (starts_size h45)
            have hsz := starts_size h45
            go_upto_region 13 with fail
            generalize D.extract 1 D.size = D2 at hA2
            have hb3 := get_bt D2
            have hD2 : D2.size ≤ 4 := by omega
            clear HA hb2
            have HA : Hid (D2.size = s.size - (i + 2) ∧ ∀ t, t < s.size - (i + 2) → bt D2 t = bt s (i + 2 + t)) := hA2
            clear hA2
            by_cases hz : D2.size = 0
            · have hDe : D2.toList.isEmpty = true := by rw [ByteArray.toList_eq, List.isEmpty_iff_length_eq_zero]; exact hz
              go_wp2
              go_ret2
              exact gaveC_no (cutR_bad hE hin hr hS (Or.inl (by have := HA.out.1; omega)))
            · have hDe : D2.toList.isEmpty = false := by rw [ByteArray.toList_eq, ← Bool.not_eq_true, List.isEmpty_iff_length_eq_zero]; exact hz
              by_cases h3 : D2.size ≤ 3
              · have H3 : Hid (D2.size ≤ 3) := h3
                go_wp2
                go_loop [3, 8] (fun sh i => ∃ k : Nat, k ≤ D2.size ∧ i = .int .i64 k ∧ sh = .int .i32 (val (bt D2) k) ∧ ∀ t, t < k → dig (bt D2 t)) (fun _ i => D2.size - (intOf i).toNat)
                case atStart => exact ⟨0, Nat.zero_le _, rfl, rfl, fun t h => absurd h (by omega)⟩
                case round =>
                  obtain ⟨k, hk, rfl, rfl, hdg⟩ := hrel
                  have v1 := val_bound3 (f := bt D2) (k := k) (by omega) hdg
                  have n1 := bt_nonneg D2 k
                  have n2 := bt_le D2 k
                  by_cases hlt2 : k < D2.size
                  · by_cases hd : 48 ≤ bt D2 k ∧ bt D2 k ≤ 57
                    · go_wp2
                      go_round
                      case rel => exact ⟨k + 1, by omega, by go_num, rfl, fun t h => if e : t = k then by subst e; exact hd else hdg t (by omega)⟩
                      case measure => simp [intOf]; omega
                    · by_cases hd0 : bt D2 k < 48
                      · go_wp2
                        go_ret2
                        exact gaveC_no (cutR_bad hE hin hr hS (Or.inr (Or.inr ⟨k, by have := HA.out.1; omega, by rw [← HA.out.2 k (by have := HA.out.1; omega)]; exact hd⟩)))
                      · go_wp2
                        go_ret2
                        exact gaveC_no (cutR_bad hE hin hr hS (Or.inr (Or.inr ⟨k, by have := HA.out.1; omega, by rw [← HA.out.2 k (by have := HA.out.1; omega)]; exact hd⟩)))
                  · have hkD : k = D2.size := by omega
                    subst hkD
                    have hR : Hid (CutR (bt s) s.size i (sgn true (val (bt D2) D2.size))) :=
                      cutR_yes hE hin hS (by have := HA.out.1; omega) (by have := HA.out.1; omega) (fun t h => by rw [← HA.out.2 t h]; exact hdg t (by have := HA.out.1; omega)) (by rw [← HA.out.1]; exact val_congr _ (fun t h => HA.out.2 t (by have := HA.out.1; omega)))
                    go_wp2
                    go_ret2
                    exact ⟨i, _, rfl, hR.out, rfl⟩
              · go_wp2
                go_ret2
                exact gaveC_no (cutR_bad hE hin hr hS (Or.inr (Or.inl (by have := HA.out.1; omega))))
      · have h69 : (bt s i == 69) = false := by simp; exact fun h => hE (Or.inl h)
        have h101 : (bt s i == 101) = false := by simp; exact fun h => hE (Or.inr h)
        go_wp2
        go_round
        case rel => exact ⟨i, by omega, by omega, rfl, rfl, fun t h1 h2 => if h : t = i then by subst h; exact hE else hno t (by omega) h2⟩
        case measure => simp [intOf]
    · have hm : ¬ max 0 ((s.size : Int) - 3 - 2) ≤ (j : Int) - 1 := by omega
      go_wp2
      go_ret2
      exact gaveC_no (cutR_noE (k := s.size - j) (by omega) (fun t h1 h2 => hno t (by omega) h2))
end Go.Proofs.Qxb6603934a.Cut
