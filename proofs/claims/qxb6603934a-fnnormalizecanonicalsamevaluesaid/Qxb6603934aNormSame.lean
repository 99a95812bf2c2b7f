import Derived.Test.Qxb6603934aRows
import Derived.WalkKit
import Derived.WalkSpells
import Derived.WalkLawsBesides
import Derived.Handy
import Derived.BigQuiet
import Derived.Deep.QuietTactic
import Derived.Test.Qxb6603934aArr
import Derived.Test.Qxb6603934aNormClone
import Derived.Test.Qxb6603934aNormCarry
import Derived.Test.Qxb6603934aNormVal
namespace Go.Proofs.Qxb6603934a.Norm
open Go.RowKit Go.Deep

/-! The plain side: a difference that is zero carries to nothing, limb by limb. -/
theorem hv_lt {f : Nat → Int} : ∀ (r k : Nat), (∀ i, i < r → 0 ≤ f (k + i) ∧ f (k + i) ≤ 999999999) → hv f k r + 1 ≤ 1000000000 ^ r
  | 0, _, _ => by simp [hv]
  | r + 1, k, h => by
    have h0 := h 0 (by omega)
    have h1 := hv_lt r (k + 1) (fun i hi => by have := h (i + 1) (by omega); rwa [show k + (i + 1) = k + 1 + i by omega] at this)
    simp only [Nat.add_zero] at h0
    rw [hv_succ, Int.pow_succ]
    omega

theorem zero_carry {d : Nat → Int} {m : Nat} (h : hv d 0 m = 0) : cy d m = 0 ∧ ∀ k, k < m → lm d k = 0 := by
  have e := hv_carry0 d m
  have a := hv_nonneg (f := lm d) m 0 (fun i _ => (lm_range d _).1)
  have b := hv_lt (f := lm d) m 0 (fun i _ => lm_range d _)
  rw [h] at e
  have hp : (0 : Int) < 1000000000 ^ m := Int.pow_pos (by omega)
  have hc : cy d m = 0 := by
    rcases Int.lt_trichotomy (cy d m) 0 with hc | hc | hc
    · have : 1000000000 ^ m * cy d m ≤ 1000000000 ^ m * (-1) := Int.mul_le_mul_of_nonneg_left (by omega) (by omega)
      omega
    · exact hc
    · have : 1000000000 ^ m * 1 ≤ 1000000000 ^ m * cy d m := Int.mul_le_mul_of_nonneg_left (by omega) (by omega)
      omega
  refine ⟨hc, fun k hk => ?_⟩
  rw [hc, Int.mul_zero, Int.add_zero] at e
  have := hv_pos (f := lm d) (r := m) (k := 0) (fun i _ => lm_range d _) e.symm hk
  simpa using this

theorem cy_bound2 {f : Nat → Int} {n : Nat} (h : ∀ i, i < n → -4611686019427387904 ≤ f i ∧ f i ≤ 4611686019427387904) : ∀ k, k ≤ n → -5000000000 ≤ cy f k ∧ cy f k ≤ 5000000000
  | 0, _ => by simp [cy]
  | k + 1, hk => by
    have a := cy_bound2 h k (by omega)
    have b := h k (by omega)
    simp only [cy]
    omega

/-- The row of differences: block D, nothing else turned. -/
def Diff (D M : Nat) (d : Nat → Int) (w wr : World) : Prop :=
  Arr wr D 2 M M (fun j => .int .i64 (d j)) ∧ Below D w wr
theorem diff_set {D M : Nat} {d d' : Nat → Int} {w wr : World} (h : Diff D M d w wr) (i : Nat) (x : Int) (hx : ∀ j, j < M → d' j = if j = i then x else d j) :
    Diff D M d' w ((wr.setCell ⟨D, i, none⟩ (.int .i64 x)).drew) := by
  refine ⟨((h.1.set i (.int .i64 x)).congr (fun j hj => ?_)).drew, (h.2.setCell (Nat.le_refl _) _).drew⟩
  rw [hx j hj]
  split <;> rfl
def d1 (f : Nat → Int) (k j : Nat) : Int := if j < k then f j else 0
def d2 (f f2 : Nat → Int) (n F k j : Nat) : Int := d1 f n j - (if F ≤ j ∧ j < F + k then f2 (j - F) else 0)

theorem tmod_zero {v : Int} (h : v % 1000000000 = 0) : v.tmod 1000000000 = 0 ∧ v.tdiv 1000000000 = v / 1000000000 := by
  have hd : (1000000000 : Int) ∣ v := by omega
  constructor
  · rw [Int.tmod_eq_emod, if_pos (Or.inr hd)]; omega
  · rw [Int.tdiv_eq_ediv, if_pos (Or.inr hd)]; omega

theorem d2_bound {f f2 : Nat → Int} {n n2 F : Nat} (h : ∀ i, i < n → -4611686018427387904 ≤ f i ∧ f i ≤ 4611686018427387904) (h2 : ∀ i, i < n2 → -999999999 ≤ f2 i ∧ f2 i ≤ 999999999) (j : Nat) :
    -4611686019427387904 ≤ d2 f f2 n F n2 j ∧ d2 f f2 n F n2 j ≤ 4611686019427387904 := by
  unfold d2 d1
  by_cases e : j < n
  · have := h j e
    rw [if_pos e]
    by_cases e2 : F ≤ j ∧ j < F + n2
    · have := h2 (j - F) (by omega)
      rw [if_pos e2]; omega
    · rw [if_neg e2]; omega
  · rw [if_neg e]
    by_cases e2 : F ≤ j ∧ j < F + n2
    · have := h2 (j - F) (by omega)
      rw [if_pos e2]; omega
    · rw [if_neg e2]; omega

set_option maxHeartbeats 2000000 in
theorem same_in (v u : Value) (n n2 F : Nat) (f f2 : Nat → Int) (low : Int) (w : World) (hr : Reads .i64 w v n f) (hs : Reads .i64 w u n2 f2) (hn : n ≤ 200000) (_hn2 : F + n2 ≤ n + 2) (h0 : 0 < n2) (hn0 : 0 < n)
    (hf : ∀ i, i < n → -4611686018427387904 ≤ f i ∧ f i ≤ 4611686018427387904) (hf2 : ∀ i, i < n2 → -999999999 ≤ f2 i ∧ f2 i ≤ 999999999)
    (hlow : -2147483648 ≤ low ∧ low ≤ 2147483648) (hcase : F + n2 ≤ n) (hval : hv (d2 f f2 n F n2) 0 (n) = 0) :
    Calls Try.prog 22 #[v, .int .i64 low, u, .int .i64 (low + F)] w fun e w' => e = .returned (.bool true) ∧ Below w.heap.size w w' := by
  have hu := hr.under
  have hu2 := hs.under
  obtain ⟨ao, cap, rfl, _, hc⟩ := hr
  obtain ⟨ao2, cap2, rfl, _, hc2⟩ := hs
  obtain ⟨b, off, rfl, hcl⟩ := hc hn0
  obtain ⟨b2, off2, rfl, hcl2⟩ := hc2 h0
  have hbB := hu b off n cap rfl hn0
  have hbB2 := hu2 b2 off2 n2 cap2 rfl h0
  have HC : Hid (∀ i, i < n → w.cell? ⟨b, off + i, none⟩ = some (.int .i64 (f i))) := hcl
  have HC2 : Hid (∀ i, i < n2 → w.cell? ⟨b2, off2 + i, none⟩ = some (.int .i64 (f2 i))) := hcl2
  have HFb : Hid (∀ i, i < n → -4611686018427387904 ≤ f i ∧ f i ≤ 4611686018427387904) := hf
  have HFb2 : Hid (∀ i, i < n2 → -999999999 ≤ f2 i ∧ f2 i ≤ 999999999) := hf2
  have hz : ((n2 : Int) == 0) = false := beq_eq_false_iff_ne.2 (by omega)
  have hsz : low + (n : Int) - low = ((n : Nat) : Int) := by omega
  have hmk : ∀ w : World, (Instr.makeSlice 29 (.int .i64 (low + (n : Int) - low)) (.int .i64 (low + (n : Int) - low))).run Try.prog w = .ok (.slice (some ⟨w.heap.size, 0, none⟩) (n) (n)) (w.alloc (.cells (madeCells #[.int .i64 0] (n)) 2)) := by
    rw [hsz]
    exact run_make_row' (P := Try.prog) 29 2 (.int .i64 0) 8 Try.underlying29 info2 rfl .i64 .i64 (n) (by omega) (by omega)
  have HVAL : Hid (hv (d2 f f2 n F n2) 0 (n) = 0) := hval
  clear hc hc2 hcl hcl2 hu hu2 hf hf2 hsz hval
  go_enter Try.func22, Try.ntmps22
  go_wp2
  go_loopw [12] (fun i wr => ∃ k : Nat, k ≤ n ∧ i = .int .i64 k ∧ Diff w.heap.size (n) (d1 f k) w wr) (fun i _ => n - (intOf i).toNat)
  case atStart => exact ⟨0, Nat.zero_le _, rfl, (Arr_made w (.int .i64 0) _ 2).congr (fun j hj => by simp [d1]), (Below.refl _ _).alloc (Nat.le_refl _) _⟩
  case round =>
    obtain ⟨k, hk, rfl, hD⟩ := hrel
    by_cases hlt : k < n
    · have ck : wr.cell? ⟨b, off + k, none⟩ = some (.int .i64 (f k)) := (hD.2.cell (p := ⟨b, off + k, none⟩) hbB).trans (HC.out k hlt)
      have dk : wr.cell? ⟨w.heap.size, k, none⟩ = some (.int .i64 0) := by have := hD.1.cell (show k < n by omega); simpa [d1] using this
      have fk := hD.1.frozen k
      have fb := HFb.out k hlt
      have hkM : (k : Int) < ((n : Nat) : Int) := by omega
      have HD' : Hid (Diff w.heap.size (n) (d1 f (k + 1)) w ((wr.setCell ⟨w.heap.size, k, none⟩ (.int .i64 (f k))).drew)) := diff_set hD k (f k) (fun j hj => by
        unfold d1
        by_cases e : j = k
        · subst e; simp
        · by_cases e2 : j < k
          · simp [e, e2, show j < k + 1 by omega]
          · simp [e, e2, show ¬ j < k + 1 by omega])
      clear hD
      go_wp2
      go_region
      go_wp2
      go_roundw
      case rel => exact ⟨k + 1, by omega, by go_num, HD'.out⟩
      case measure => simp [intOf]; omega
    · have hkn : n = k := by omega
      subst hkn
      have HD1 : Hid (Diff w.heap.size (n) (d1 f n) w wr) := hD
      clear hD
      go_wp2
      go_loopw [13] (fun i wr2 => ∃ t : Nat, t ≤ n2 ∧ i = .int .i64 t ∧ Diff w.heap.size (n) (d2 f f2 n F t) w wr2) (fun i _ => n2 - (intOf i).toNat)
      case atStart => exact ⟨0, Nat.zero_le _, rfl, HD1.out.1.congr (fun j hj => by simp [d2]; omega), HD1.out.2⟩
      case round =>
        obtain ⟨t, ht, rfl, hD⟩ := hrel
        by_cases hlt2 : t < n2
        · have ck : wr.cell? ⟨b2, off2 + t, none⟩ = some (.int .i64 (f2 t)) := (hD.2.cell (p := ⟨b2, off2 + t, none⟩) hbB2).trans (HC2.out t hlt2)
          have hFt : F + t < n := by omega
          obtain ⟨x, hx⟩ : ∃ x, x = d1 f n (F + t) := ⟨_, rfl⟩
          have hxb : -4611686018427387904 ≤ x ∧ x ≤ 4611686018427387904 := by
            rw [hx]; unfold d1
            by_cases e : F + t < n
            · rw [if_pos e]; exact HFb.out _ e
            · rw [if_neg e]; omega
          have dk : wr.cell? ⟨w.heap.size, F + t, none⟩ = some (.int .i64 x) := by
            have := hD.1.cell hFt
            rw [this, hx]
            simp [d2]
          have fk := hD.1.frozen (F + t)
          have fb := HFb2.out t hlt2
          have HD' : Hid (Diff w.heap.size (n) (d2 f f2 n F (t + 1)) w ((wr.setCell ⟨w.heap.size, F + t, none⟩ (.int .i64 (x - f2 t))).drew)) := diff_set hD (F + t) (x - f2 t) (fun j hj => by
            unfold d2
            by_cases e : j = F + t
            · subst e
              rw [if_pos rfl, if_pos (by omega), hx, show F + t - F = t by omega]
            · rw [if_neg e]
              by_cases e2 : F ≤ j ∧ j < F + t
              · rw [if_pos e2, if_pos (by omega)]
              · rw [if_neg e2, if_neg (by omega)])
          have hix : (low + (F : Int) - low + (t : Int)) = ((F + t : Nat) : Int) := by omega
          clear hD hx
          go_wp2
          go_region
          go_wp2
          go_roundw
          case rel => exact ⟨t + 1, by omega, by go_num, HD'.out⟩
          case measure => simp [intOf]; omega
        · have htn : n2 = t := by omega
          subst htn
          have HD3 : Hid (Diff w.heap.size (n) (d2 f f2 n F n2) w wr) := hD
          have HDb : Hid (∀ j, j < n → -4611686019427387904 ≤ d2 f f2 n F n2 j ∧ d2 f f2 n F n2 j ≤ 4611686019427387904) := fun j hj => d2_bound HFb.out HFb2.out j
          have HZ : Hid (cy (d2 f f2 n F n2) (n) = 0 ∧ ∀ j, j < n → lm (d2 f f2 n F n2) j = 0) := zero_carry HVAL.out
          clear hD
          go_wp2
          go_loop [14, 15] (fun c i => ∃ k : Nat, k ≤ n ∧ i = .int .i64 k ∧ c = .int .i64 (cy (d2 f f2 n F n2) k)) (fun _ i => n - (intOf i).toNat)
          case atStart => exact ⟨0, Nat.zero_le _, rfl, rfl⟩
          case round =>
            obtain ⟨k, hk, rfl, rfl⟩ := hrel
            have hcb := cy_bound2 HDb.out k hk
            by_cases hlt : k < n
            · have ck := HD3.out.1.cell hlt
              have hdb := HDb.out k hlt
              obtain ⟨V, hV⟩ : ∃ V, d2 f f2 n F n2 k + cy (d2 f f2 n F n2) k = V := ⟨_, rfl⟩
              have HV : Hid (d2 f f2 n F n2 k + cy (d2 f f2 n F n2) k = V) := hV
              have hz : V % 1000000000 = 0 := by have := HZ.out.2 k hlt; unfold lm at this; rw [HV.out] at this; exact this
              have hVb : -4611686029427387904 ≤ V ∧ V ≤ 4611686029427387904 := by omega
              obtain ⟨t1, t2⟩ := tmod_zero hz
              have HN : Hid (cy (d2 f f2 n F n2) (k + 1) = V / 1000000000) := by show _ = _; rw [cy_step, HV.out]
              clear hz
              go_wp2
              go_round
              case rel => exact ⟨k + 1, by omega, by go_num, by rw [HN.out]⟩
              case measure => simp [intOf]; omega
            · have hkM : n = k := by omega
              subst hkM
              have hcz : cy (d2 f f2 n F n2) (n) = 0 := HZ.out.1
              go_wp2
              go_ret
              exact ⟨by simp, HD3.out.2⟩

end Go.Proofs.Qxb6603934a.Norm
