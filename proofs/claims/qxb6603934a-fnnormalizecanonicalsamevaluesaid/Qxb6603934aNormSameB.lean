import Derived.Test.Qxb6603934aNormSame
namespace Go.Proofs.Qxb6603934a.Norm
open Go.RowKit Go.Deep

set_option maxHeartbeats 2000000 in
theorem same_nil (v : Value) (n : Nat) (f : Nat → Int) (low : Int) (w : World) (hr : Reads .i64 w v n f) (hn : n ≤ 200000) (hn0 : 0 < n)
    (hf : ∀ i, i < n → -4611686018427387904 ≤ f i ∧ f i ≤ 4611686018427387904)
    (hlow : -2147483648 ≤ low ∧ low ≤ 2147483648) (hval : hv (d1 f n) 0 n = 0) :
    Calls Try.prog 22 #[v, .int .i64 low, .slice none 0 0, .int .i64 low] w fun e w' => e = .returned (.bool true) ∧ Below w.heap.size w w' := by
  have hu := hr.under
  obtain ⟨ao, cap, rfl, _, hc⟩ := hr
  obtain ⟨b, off, rfl, hcl⟩ := hc hn0
  have hbB := hu b off n cap rfl hn0
  have HC : Hid (∀ i, i < n → w.cell? ⟨b, off + i, none⟩ = some (.int .i64 (f i))) := hcl
  have HFb : Hid (∀ i, i < n → -4611686018427387904 ≤ f i ∧ f i ≤ 4611686018427387904) := hf
  have hsz : low + (n : Int) - low = (n : Int) := by omega
  have hmk : ∀ w : World, (Instr.makeSlice 29 (.int .i64 (low + (n : Int) - low)) (.int .i64 (low + (n : Int) - low))).run Try.prog w = .ok (.slice (some ⟨w.heap.size, 0, none⟩) n n) (w.alloc (.cells (madeCells #[.int .i64 0] n) 2)) := by
    rw [hsz]
    exact run_make_row' (P := Try.prog) 29 2 (.int .i64 0) 8 Try.underlying29 info2 rfl .i64 .i64 n (by omega) (by omega)
  have HVAL : Hid (hv (d1 f n) 0 n = 0) := hval
  clear hc hcl hu hf hsz hval
  go_enter Try.func22, Try.ntmps22
  go_wp2
  go_loopw [12] (fun i wr => ∃ k : Nat, k ≤ n ∧ i = .int .i64 k ∧ Diff w.heap.size (n) (d1 f k) w wr) (fun i _ => n - (intOf i).toNat)
  case atStart => exact ⟨0, Nat.zero_le _, rfl, (Arr_made w (.int .i64 0) _ 2).congr (fun j hj => by simp [d1]), (Below.refl _ _).alloc (Nat.le_refl _) _⟩
  case round =>
    obtain ⟨k, hk, rfl, hD⟩ := hrel
    by_cases hlt : k < n
    · have ck : wr.cell? ⟨b, off + k, none⟩ = some (.int .i64 (f k)) := (hD.2.cell (p := ⟨b, off + k, none⟩) hbB).trans (HC.out k hlt)
      have dk : wr.cell? ⟨w.heap.size, k, none⟩ = some (.int .i64 0) := by have := hD.1.cell (show k < n by omega); simpa [d1] using this
      have fk := hD.1.frozen k
      have fb := HFb.out k hlt
      have hkM : (k : Int) < ((n : Nat) : Int) := by omega
      have HD' : Hid (Diff w.heap.size (n) (d1 f (k + 1)) w ((wr.setCell ⟨w.heap.size, k, none⟩ (.int .i64 (f k))).drew)) := diff_set hD k (f k) (fun j hj => by
        unfold d1
        by_cases e : j = k
        · subst e; simp
        · by_cases e2 : j < k
          · simp [e, e2, show j < k + 1 by omega]
          · simp [e, e2, show ¬ j < k + 1 by omega])
      clear hD
      go_wp2
      go_region
      go_wp2
      go_roundw
      case rel => exact ⟨k + 1, by omega, by go_num, HD'.out⟩
      case measure => simp [intOf]; omega
    · have hkn : n = k := by omega
      subst hkn
      have HD1 : Hid (Diff w.heap.size (n) (d1 f n) w wr) := hD
      clear hD
      go_wp2
      refine wp_loop_rounds 1 ?_
      rw [rounds_succ]
      have HD3 : Hid (Diff w.heap.size n (d1 f n) w wr) := HD1
      have HDb : Hid (∀ j, j < n → -4611686019427387904 ≤ d1 f n j ∧ d1 f n j ≤ 4611686019427387904) := fun j hj => by unfold d1; rw [if_pos hj]; have := HFb.out j hj; omega
      have HZ : Hid (cy (d1 f n) n = 0 ∧ ∀ j, j < n → lm (d1 f n) j = 0) := zero_carry HVAL.out
      go_wp2
      go_loop [14, 15] (fun c i => ∃ k : Nat, k ≤ n ∧ i = .int .i64 k ∧ c = .int .i64 (cy (d1 f n) k)) (fun _ i => n - (intOf i).toNat)
      case atStart => exact ⟨0, Nat.zero_le _, rfl, rfl⟩
      case round =>
        obtain ⟨k, hk, rfl, rfl⟩ := hrel
        have hcb := cy_bound2 HDb.out k hk
        by_cases hlt : k < n
        · have ck := HD3.out.1.cell hlt
          have hdb := HDb.out k hlt
          obtain ⟨V, hV⟩ : ∃ V, d1 f n k + cy (d1 f n) k = V := ⟨_, rfl⟩
          have HV : Hid (d1 f n k + cy (d1 f n) k = V) := hV
          have hz : V % 1000000000 = 0 := by have := HZ.out.2 k hlt; unfold lm at this; rw [HV.out] at this; exact this
          have hVb : -4611686029427387904 ≤ V ∧ V ≤ 4611686029427387904 := by omega
          obtain ⟨t1, t2⟩ := tmod_zero hz
          have HN : Hid (cy (d1 f n) (k + 1) = V / 1000000000) := by show _ = _; rw [cy_step, HV.out]
          clear hz
          go_wp2
          go_round
          case rel => exact ⟨k + 1, by omega, by go_num, by rw [HN.out]⟩
          case measure => simp [intOf]; omega
        · have hkM : n = k := by omega
          subst hkM
          have hcz : cy (d1 f n) (n) = 0 := HZ.out.1
          go_wp2
          go_ret
          exact ⟨by simp, HD3.out.2⟩

set_option maxHeartbeats 400000 in
theorem same_none (v : Value) (f : Nat → Int) (low : Int) (w : World) (hr : Reads .i64 w v 0 f) (hlow : -2147483648 ≤ low ∧ low ≤ 2147483648) :
    Calls Try.prog 22 #[v, .int .i64 low, .slice none 0 0, .int .i64 low] w fun e w' => e = .returned (.bool true) ∧ Below w.heap.size w w' := by
  obtain ⟨ao, cap, rfl, _, hc⟩ := hr
  have hmk0 : ∀ w : World, (Instr.makeSlice 29 (.int .i64 0) (.int .i64 0)).run Try.prog w = .ok (.slice (some ⟨w.heap.size, 0, none⟩) 0 0) (w.alloc (.cells (madeCells #[.int .i64 0] 0) 2)) :=
    run_make_row' (P := Try.prog) 29 2 (.int .i64 0) 8 Try.underlying29 info2 rfl .i64 .i64 0 (by omega) (by omega)
  have hsz : low + 0 - low = 0 := by omega
  have hsz2 : low - low = 0 := by omega
  go_enter Try.func22, Try.ntmps22
  go_wp2
  refine wp_loop_rounds 1 ?_
  rw [rounds_succ]
  go_wp2
  refine wp_loop_rounds 1 ?_
  rw [rounds_succ]
  go_wp2
  refine wp_loop_rounds 1 ?_
  rw [rounds_succ]
  go_wp2
  go_ret
  exact ⟨rfl, (Below.refl _ _).alloc (Nat.le_refl _) _⟩

set_option maxHeartbeats 2000000 in
theorem same_out (v u : Value) (n n2 F : Nat) (f f2 : Nat → Int) (low : Int) (w : World) (hr : Reads .i64 w v n f) (hs : Reads .i64 w u n2 f2) (hn : n ≤ 200000) (hn2 : F + n2 ≤ n + 2) (h0 : 0 < n2) (hn0 : 0 < n)
    (hf : ∀ i, i < n → -4611686018427387904 ≤ f i ∧ f i ≤ 4611686018427387904) (hf2 : ∀ i, i < n2 → -999999999 ≤ f2 i ∧ f2 i ≤ 999999999)
    (hlow : -2147483648 ≤ low ∧ low ≤ 2147483648) (hcase : ¬ F + n2 ≤ n) (hval : hv (d2 f f2 n F n2) 0 (F + n2) = 0) :
    Calls Try.prog 22 #[v, .int .i64 low, u, .int .i64 (low + F)] w fun e w' => e = .returned (.bool true) ∧ Below w.heap.size w w' := by
  have hu := hr.under
  have hu2 := hs.under
  obtain ⟨ao, cap, rfl, _, hc⟩ := hr
  obtain ⟨ao2, cap2, rfl, _, hc2⟩ := hs
  obtain ⟨b, off, rfl, hcl⟩ := hc hn0
  obtain ⟨b2, off2, rfl, hcl2⟩ := hc2 h0
  have hbB := hu b off n cap rfl hn0
  have hbB2 := hu2 b2 off2 n2 cap2 rfl h0
  have HC : Hid (∀ i, i < n → w.cell? ⟨b, off + i, none⟩ = some (.int .i64 (f i))) := hcl
  have HC2 : Hid (∀ i, i < n2 → w.cell? ⟨b2, off2 + i, none⟩ = some (.int .i64 (f2 i))) := hcl2
  have HFb : Hid (∀ i, i < n → -4611686018427387904 ≤ f i ∧ f i ≤ 4611686018427387904) := hf
  have HFb2 : Hid (∀ i, i < n2 → -999999999 ≤ f2 i ∧ f2 i ≤ 999999999) := hf2
  have hz : ((n2 : Int) == 0) = false := beq_eq_false_iff_ne.2 (by omega)
  have hsz : low + (F : Int) + (n2 : Int) - low = ((F + n2 : Nat) : Int) := by omega
  have hmk : ∀ w : World, (Instr.makeSlice 29 (.int .i64 (low + (F : Int) + (n2 : Int) - low)) (.int .i64 (low + (F : Int) + (n2 : Int) - low))).run Try.prog w = .ok (.slice (some ⟨w.heap.size, 0, none⟩) (F + n2) (F + n2)) (w.alloc (.cells (madeCells #[.int .i64 0] (F + n2)) 2)) := by
    rw [hsz]
    exact run_make_row' (P := Try.prog) 29 2 (.int .i64 0) 8 Try.underlying29 info2 rfl .i64 .i64 (F + n2) (by omega) (by omega)
  have HVAL : Hid (hv (d2 f f2 n F n2) 0 (F + n2) = 0) := hval
  clear hc hc2 hcl hcl2 hu hu2 hf hf2 hsz hval
  go_enter Try.func22, Try.ntmps22
  go_wp2
  go_loopw [12] (fun i wr => ∃ k : Nat, k ≤ n ∧ i = .int .i64 k ∧ Diff w.heap.size (F + n2) (d1 f k) w wr) (fun i _ => n - (intOf i).toNat)
  case atStart => exact ⟨0, Nat.zero_le _, rfl, (Arr_made w (.int .i64 0) _ 2).congr (fun j hj => by simp [d1]), (Below.refl _ _).alloc (Nat.le_refl _) _⟩
  case round =>
    obtain ⟨k, hk, rfl, hD⟩ := hrel
    by_cases hlt : k < n
    · have ck : wr.cell? ⟨b, off + k, none⟩ = some (.int .i64 (f k)) := (hD.2.cell (p := ⟨b, off + k, none⟩) hbB).trans (HC.out k hlt)
      have dk : wr.cell? ⟨w.heap.size, k, none⟩ = some (.int .i64 0) := by have := hD.1.cell (show k < F + n2 by omega); simpa [d1] using this
      have fk := hD.1.frozen k
      have fb := HFb.out k hlt
      have hkM : (k : Int) < ((F + n2 : Nat) : Int) := by omega
      have HD' : Hid (Diff w.heap.size (F + n2) (d1 f (k + 1)) w ((wr.setCell ⟨w.heap.size, k, none⟩ (.int .i64 (f k))).drew)) := diff_set hD k (f k) (fun j hj => by
        unfold d1
        by_cases e : j = k
        · subst e; simp
        · by_cases e2 : j < k
          · simp [e, e2, show j < k + 1 by omega]
          · simp [e, e2, show ¬ j < k + 1 by omega])
      clear hD
      go_wp2
      go_region
      go_wp2
      go_roundw
      case rel => exact ⟨k + 1, by omega, by go_num, HD'.out⟩
      case measure => simp [intOf]; omega
    · have hkn : n = k := by omega
      subst hkn
      have HD1 : Hid (Diff w.heap.size (F + n2) (d1 f n) w wr) := hD
      clear hD
      go_wp2
      go_loopw [13] (fun i wr2 => ∃ t : Nat, t ≤ n2 ∧ i = .int .i64 t ∧ Diff w.heap.size (F + n2) (d2 f f2 n F t) w wr2) (fun i _ => n2 - (intOf i).toNat)
      case atStart => exact ⟨0, Nat.zero_le _, rfl, HD1.out.1.congr (fun j hj => by simp [d2]; omega), HD1.out.2⟩
      case round =>
        obtain ⟨t, ht, rfl, hD⟩ := hrel
        by_cases hlt2 : t < n2
        · have ck : wr.cell? ⟨b2, off2 + t, none⟩ = some (.int .i64 (f2 t)) := (hD.2.cell (p := ⟨b2, off2 + t, none⟩) hbB2).trans (HC2.out t hlt2)
          have hFt : F + t < F + n2 := by omega
          obtain ⟨x, hx⟩ : ∃ x, x = d1 f n (F + t) := ⟨_, rfl⟩
          have hxb : -4611686018427387904 ≤ x ∧ x ≤ 4611686018427387904 := by
            rw [hx]; unfold d1
            by_cases e : F + t < n
            · rw [if_pos e]; exact HFb.out _ e
            · rw [if_neg e]; omega
          have dk : wr.cell? ⟨w.heap.size, F + t, none⟩ = some (.int .i64 x) := by
            have := hD.1.cell hFt
            rw [this, hx]
            simp [d2]
          have fk := hD.1.frozen (F + t)
          have fb := HFb2.out t hlt2
          have HD' : Hid (Diff w.heap.size (F + n2) (d2 f f2 n F (t + 1)) w ((wr.setCell ⟨w.heap.size, F + t, none⟩ (.int .i64 (x - f2 t))).drew)) := diff_set hD (F + t) (x - f2 t) (fun j hj => by
            unfold d2
            by_cases e : j = F + t
            · subst e
              rw [if_pos rfl, if_pos (by omega), hx, show F + t - F = t by omega]
            · rw [if_neg e]
              by_cases e2 : F ≤ j ∧ j < F + t
              · rw [if_pos e2, if_pos (by omega)]
              · rw [if_neg e2, if_neg (by omega)])
          have hix : (low + (F : Int) - low + (t : Int)) = ((F + t : Nat) : Int) := by omega
          clear hD hx
          go_wp2
          go_region
          go_wp2
          go_roundw
          case rel => exact ⟨t + 1, by omega, by go_num, HD'.out⟩
          case measure => simp [intOf]; omega
        · have htn : n2 = t := by omega
          subst htn
          have HD3 : Hid (Diff w.heap.size (F + n2) (d2 f f2 n F n2) w wr) := hD
          have HDb : Hid (∀ j, j < F + n2 → -4611686019427387904 ≤ d2 f f2 n F n2 j ∧ d2 f f2 n F n2 j ≤ 4611686019427387904) := fun j hj => d2_bound HFb.out HFb2.out j
          have HZ : Hid (cy (d2 f f2 n F n2) (F + n2) = 0 ∧ ∀ j, j < F + n2 → lm (d2 f f2 n F n2) j = 0) := zero_carry HVAL.out
          clear hD
          go_wp2
          go_loop [14, 15] (fun c i => ∃ k : Nat, k ≤ F + n2 ∧ i = .int .i64 k ∧ c = .int .i64 (cy (d2 f f2 n F n2) k)) (fun _ i => F + n2 - (intOf i).toNat)
          case atStart => exact ⟨0, Nat.zero_le _, rfl, rfl⟩
          case round =>
            obtain ⟨k, hk, rfl, rfl⟩ := hrel
            have hcb := cy_bound2 HDb.out k hk
            by_cases hlt : k < F + n2
            · have ck := HD3.out.1.cell hlt
              have hdb := HDb.out k hlt
              obtain ⟨V, hV⟩ : ∃ V, d2 f f2 n F n2 k + cy (d2 f f2 n F n2) k = V := ⟨_, rfl⟩
              have HV : Hid (d2 f f2 n F n2 k + cy (d2 f f2 n F n2) k = V) := hV
              have hz : V % 1000000000 = 0 := by have := HZ.out.2 k hlt; unfold lm at this; rw [HV.out] at this; exact this
              have hVb : -4611686029427387904 ≤ V ∧ V ≤ 4611686029427387904 := by omega
              obtain ⟨t1, t2⟩ := tmod_zero hz
              have HN : Hid (cy (d2 f f2 n F n2) (k + 1) = V / 1000000000) := by show _ = _; rw [cy_step, HV.out]
              clear hz
              go_wp2
              go_round
              case rel => exact ⟨k + 1, by omega, by go_num, by rw [HN.out]⟩
              case measure => simp [intOf]; omega
            · have hkM : F + n2 = k := by omega
              subst hkM
              have hcz : cy (d2 f f2 n F n2) (F + n2) = 0 := HZ.out.1
              go_wp2
              go_ret
              exact ⟨by simp, HD3.out.2⟩

end Go.Proofs.Qxb6603934a.Norm
