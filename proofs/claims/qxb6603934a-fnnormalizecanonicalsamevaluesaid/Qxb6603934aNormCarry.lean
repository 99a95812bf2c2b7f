import Derived.Test.Qxb6603934aRows
import Derived.WalkKit
import Derived.WalkSpells
import Derived.WalkLawsBesides
import Derived.PlainAid
import Derived.Handy
import Derived.BigQuiet
import Derived.Deep.QuietTactic
import Derived.Test.Qxb6603934aArr
import Derived.Test.Qxb6603934aNormPlain
namespace Go.Proofs.Qxb6603934a.Norm
open Go.RowKit Go.Deep

/-- What carry and negate leave of the world: row g turned, nothing else. -/
def Turned (g cap n : Nat) (f : Nat → Int) (w w' : World) : Prop :=
  Arr w' g 2 cap n (fun i => .int .i64 (f i)) ∧ w.grownBy w' (some g) ∧ w'.heap.size = w.heap.size

/-- What the loop of carry holds. -/
def Turned' (g cap n k : Nat) (f : Nat → Int) (w wr : World) : Prop :=
  Arr wr g 2 cap n (fun j => .int .i64 (if j < k + 1 then lm f j else f j)) ∧ w.grownBy wr (some g) ∧ wr.heap.size = w.heap.size
theorem grownBy_set {w wr : World} {g : Nat} (h : w.grownBy wr (some g)) (k : Nat) (u : Value) : w.grownBy (wr.setCell ⟨g, k, none⟩ u) (some g) :=
  ⟨h.os, h.tape, h.output, by rw [nblk_setCell]; exact h.size, fun j hj hne => by
    rw [blk_setCell_other _ _ _ _ (by intro e; exact hne (by rw [e]))]
    exact h.block j hj hne⟩
theorem turn_step {w wr : World} {g cap n k : Nat} {f : Nat → Int} (hA : Arr wr g 2 cap n (fun j => .int .i64 (if j < k then lm f j else f j))) (hG : w.grownBy wr (some g)) (hS : wr.heap.size = w.heap.size) :
    Turned' g cap n k f w (wr.setCell ⟨g, k, none⟩ (.int .i64 (lm f k))) := by
  refine ⟨(hA.set k _).congr (fun j hj => ?_), grownBy_set hG _ _, by rw [nblk_setCell, hS]⟩
  by_cases e : j = k
  · subst e; simp
  · by_cases e2 : j < k
    · simp [e, e2, show j < k + 1 by omega]
    · simp [e, e2, show ¬ j < k + 1 by omega]

set_option maxHeartbeats 1000000 in
theorem carry_any (w : World) (B g cap n : Nat) (f : Nat → Int) (hv : w.cell? ⟨B, 0, none⟩ = some (.slice (some ⟨g, 0, none⟩) n cap))
    (hA0 : Arr w g 2 cap n (fun i => .int .i64 (f i))) (hne : g ≠ B) (hf : ∀ i, i < n → -4611686018427387904 ≤ f i ∧ f i ≤ 4611686018427387904) (hn : n ≤ 1048576) :
    Calls Try.prog 29 #[.pointer (some ⟨B, 0, none⟩)] w fun e w' => e = .returned (.int .i64 (cy f n)) ∧ Turned g cap n (lm f) w w' := by
  have HF : Hid (∀ i, i < n → -4611686018427387904 ≤ f i ∧ f i ≤ 4611686018427387904) := hf
  clear hf
  go_enter Try.func29, Try.ntmps29
  go_wp2
  go_loopw [3, 11] (fun c i wr => ∃ k : Nat, k ≤ n ∧ i = .int .i64 k ∧ c = .int .i64 (cy f k) ∧ Arr wr g 2 cap n (fun j => .int .i64 (if j < k then lm f j else f j)) ∧ w.grownBy wr (some g) ∧ wr.heap.size = w.heap.size) (fun _ i _ => n - (intOf i).toNat)
  case atStart => exact ⟨0, Nat.zero_le _, rfl, rfl, hA0.congr (fun i hi => by simp), ⟨rfl, rfl, rfl, Nat.le_refl _, fun _ _ _ => rfl⟩, rfl⟩
  case round =>
    obtain ⟨k, hk, rfl, rfl, hA, hG, hS⟩ := hrel
    have hcb := cy_bound HF.out k hk
    by_cases hlt : k < n
    · have hfb := HF.out k hlt
      have c1 : wr.cell? ⟨g, k, none⟩ = some (.int .i64 (f k)) := by have := hA.cell hlt; simpa using this
      have c2 := hA.frozen k
      have c3 : wr.cell? ⟨B, 0, none⟩ = some (.slice (some ⟨g, 0, none⟩) n cap) := hG.cell hv (by simp; omega)
      have HA : Hid (Arr wr g 2 cap n (fun j => .int .i64 (if j < k then lm f j else f j))) := hA
      have HG : Hid (w.grownBy wr (some g)) := hG
      clear hA hG hA0
      obtain ⟨V, hV⟩ : ∃ V, f k + cy f k = V := ⟨_, rfl⟩
      have HV : Hid (f k + cy f k = V) := hV
      have hVb : -4611686023427387904 ≤ V ∧ V ≤ 4611686023427387904 := by omega
      have e1 : Hid (cy f (k + 1) = V / 1000000000) := by show _ = _; rw [cy_step, HV.out]
      have e2 : Hid (lm f k = V - V / 1000000000 * 1000000000) := by show _ = _; unfold lm; rw [HV.out]; omega
      have fin : Hid (∀ x, x = V - V / 1000000000 * 1000000000 → Turned' g cap n k f w (wr.setCell ⟨g, k, none⟩ (.int .i64 x))) := fun x hx => by
        rw [hx, ← e2.out]
        exact turn_step HA.out HG.out hS
      by_cases ht : V.tmod 1000000000 < 0
      · have hq : V.tdiv 1000000000 = V / 1000000000 + 1 := by have := tdiv_low ht; omega
        go_wp2
        go_roundw
        case rel => exact ⟨k + 1, by omega, by go_num, by rw [e1.out], fin.out _ (by omega)⟩
        case measure => simp [intOf]; omega
      · have hq : V.tdiv 1000000000 = V / 1000000000 := tdiv_high ht
        go_wp2
        go_roundw
        case rel => exact ⟨k + 1, by omega, by go_num, by rw [e1.out], fin.out _ (by omega)⟩
        case measure => simp [intOf]; omega
    · have hkn : k = n := by omega
      subst hkn
      have HT : Hid (Turned g cap k (lm f) w wr) := ⟨hA.congr (fun j hj => by simp [hj]), hG, hS⟩
      clear hA hG
      go_wp2
      go_ret
      exact ⟨rfl, HT.out⟩

/-- What the loop of negate holds. -/
def Neg' (g cap n k : Nat) (f : Nat → Int) (w wr : World) : Prop :=
  Arr wr g 2 cap n (fun j => .int .i64 (if j < k then -f j else f j)) ∧ w.grownBy wr (some g) ∧ wr.heap.size = w.heap.size
theorem grownBy_drew {w wr : World} {g : Option Nat} (h : w.grownBy wr g) : w.grownBy wr.drew g := ⟨h.os, h.tape, h.output, h.size, h.block⟩
theorem neg_step {w wr : World} {g cap n k : Nat} {f : Nat → Int} (h : Neg' g cap n k f w wr) : Neg' g cap n (k + 1) f w ((wr.setCell ⟨g, k, none⟩ (.int .i64 (-f k))).drew) := by
  obtain ⟨hA, hG, hS⟩ := h
  refine ⟨((hA.set k (.int .i64 (-f k))).congr (fun j hj => ?_)).drew, grownBy_drew (grownBy_set hG _ _), ?_⟩
  · by_cases e : j = k
    · subst e; simp
    · by_cases e2 : j < k
      · simp [e, e2, show j < k + 1 by omega]
      · simp [e, e2, show ¬ j < k + 1 by omega]
  · show (wr.setCell _ _).heap.size = _
    rw [nblk_setCell, hS]

set_option maxHeartbeats 1000000 in
theorem negate_any (w : World) (B g cap n : Nat) (f : Nat → Int) (hv : w.cell? ⟨B, 0, none⟩ = some (.slice (some ⟨g, 0, none⟩) n cap))
    (hA0 : Arr w g 2 cap n (fun i => .int .i64 (f i))) (hne : g ≠ B) (hf : ∀ i, i < n → -4611686018427387904 ≤ f i ∧ f i ≤ 4611686018427387904) (hn : n ≤ 1048578) :
    Calls Try.prog 30 #[.pointer (some ⟨B, 0, none⟩)] w fun e w' => e = .returned (.tuple #[]) ∧ Turned g cap n (fun i => -f i) w w' := by
  have HF : Hid (∀ i, i < n → -4611686018427387904 ≤ f i ∧ f i ≤ 4611686018427387904) := hf
  clear hf
  go_enter Try.func30, Try.ntmps30
  go_wp2
  go_loopw [8] (fun i wr => ∃ k : Nat, k ≤ n ∧ i = .int .i64 k ∧ Neg' g cap n k f w wr) (fun i _ => n - (intOf i).toNat)
  case atStart => exact ⟨0, Nat.zero_le _, rfl, hA0.congr (fun i hi => by simp), ⟨rfl, rfl, rfl, Nat.le_refl _, fun _ _ _ => rfl⟩, rfl⟩
  case round =>
    obtain ⟨k, hk, rfl, hN⟩ := hrel
    by_cases hlt : k < n
    · have hfb := HF.out k hlt
      have c1 : wr.cell? ⟨g, k, none⟩ = some (.int .i64 (f k)) := by have := hN.1.cell hlt; simpa using this
      have c2 := hN.1.frozen k
      have c3 : wr.cell? ⟨B, 0, none⟩ = some (.slice (some ⟨g, 0, none⟩) n cap) := hN.2.1.cell hv (by simp; omega)
      have HN : Hid (Neg' g cap n (k + 1) f w ((wr.setCell ⟨g, k, none⟩ (.int .i64 (-f k))).drew)) := neg_step hN
      clear hN hA0
      go_wp2
      go_region
      go_wp2
      go_roundw
      case rel => exact ⟨k + 1, by omega, by go_num, HN.out⟩
      case measure => simp [intOf]; omega
    · have hkn : k = n := by omega
      subst hkn
      have HT : Hid (Turned g cap k (fun i => -f i) w wr) := ⟨hN.1.congr (fun j hj => by simp [hj]), hN.2.1, hN.2.2⟩
      clear hN
      go_wp2
      go_end0
      exact ⟨rfl, HT.out⟩
end Go.Proofs.Qxb6603934a.Norm
