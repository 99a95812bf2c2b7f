import Derived.Test.Qxb6604011aCsr
namespace Go.Proofs.Qxb6604011a.Scc
open Go.RowKit Go.Deep

/-- What sccReverse hands back. -/
def CsrAt (B n : Nat) (deg : Nat → Nat) (tg : Nat → Nat → Nat) (d ra : Nat → Nat) (wr : World) : Prop :=
  Arr wr B 3 (n + 1) (n + 1) (fun i => .int .i64 (sm d i : Nat)) ∧ Arr wr (B + 1) 3 (sm d n) (sm d n) (fun i => .int .i64 (ra i : Nat)) ∧ ∀ i x, i < n → (Edge d (fun i j => ra (sm d i + j)) i x ↔ (x < n ∧ Edge deg tg x i))
def CsrOut (w : World) (n : Nat) (deg : Nat → Nat) (tg : Nat → Nat → Nat) (e : Ending) (w' : World) : Prop :=
  ∃ d ra, e = .returned (.tuple #[.slice (some ⟨w.heap.size, 0, none⟩) (n + 1) (n + 1), .slice (some ⟨w.heap.size + 1, 0, none⟩) (sm d n) (sm d n)]) ∧ Below w.heap.size w w' ∧ sm d n ≤ 8589934592 ∧ CsrAt w.heap.size n deg tg d ra w'

set_option maxHeartbeats 2000000 in
set_option maxRecDepth 100000 in
theorem rev10 (w : World) (v : Value) (n : Nat) (deg : Nat → Nat) (tg : Nat → Nat → Nat) (hg : GraphAt w v n deg tg) (hn : n ≤ 65536) (ht : ∀ i k, i < n → k < deg i → tg i k < n) (hsm : sm deg n ≤ 131072) :
    Calls Try.prog 10 #[v] w (CsrOut w n deg tg) := by
  obtain ⟨B, hBw⟩ : ∃ B, w.heap.size = B := ⟨_, rfl⟩
  have HBw : Hid (w.heap.size = B) := hBw
  obtain ⟨ao, cap, rfl, _, hg⟩ := hg
  have HR : Hid (∀ i, i < n → ∃ b off, ao = some ⟨b, off, none⟩ ∧ b < B ∧ ∃ ro rc, w.cell? ⟨b, off + i, none⟩ = some (.slice ro (deg i) rc) ∧
      (0 < deg i → ∃ rb rf, ro = some ⟨rb, rf, none⟩ ∧ ∀ k, k < deg i → rb < B ∧ w.cell? ⟨rb, rf + k, none⟩ = some (.int .i64 (tg i k : Nat)))) := fun i hi => by
    rw [← hBw]
    obtain ⟨b, off, e, h3⟩ := hg (by omega)
    obtain ⟨ro, rc, a1, _, a3⟩ := h3 i hi
    refine ⟨b, off, e, World.block_lt_of_cell? w _ a1, ro, rc, a1, fun hd => ?_⟩
    obtain ⟨rb, rf, e1, e2⟩ := a3 hd
    exact ⟨rb, rf, e1, fun k hk => ⟨World.block_lt_of_cell? w _ (e2 k hk), e2 k hk⟩⟩
  have HD : Hid (∀ i, i < n → deg i ≤ 131072) := fun i hi => by
    have : sm deg (i + 1) ≤ sm deg n := sm_le deg hi
    simp only [sm] at this
    omega
  have HT : Hid (∀ i k, i < n → k < deg i → tg i k < n) := ht
  have HS : Hid (CountAt w B n (sf deg tg 0 0) (w.alloc (.cells (madeCells #[.int .i64 0] (n + 1)) 3))) := hBw ▸ count_start w n deg tg
  have hmk := run_make_row' (P := Try.prog) 24 3 (.int .i64 0) 8 Try.underlying24 info3 rfl .i64 .i64 (n + 1) (by omega) (by omega)
  rw [show (((n + 1 : Nat)) : Int) = (n : Int) + 1 from rfl] at hmk
  obtain ⟨d, hd⟩ : ∃ d : Nat → Nat, d = fun i => tn deg tg i n := ⟨_, rfl⟩
  have Hd : Hid (d = fun i => tn deg tg i n) := hd
  have HDm : Hid (∀ i, d i ≤ 131072) := fun i => by
    rw [hd]
    have := tn_le deg tg i n
    exact Nat.le_trans this hsm
  have HSM : Hid (∀ k, k ≤ n → sm d k ≤ 8589934592) := fun k hk => by
    have h1 := sm_top (d := d) (m := 131072) k (fun i _ => HDm.out i)
    have : k * 131072 ≤ 65536 * 131072 := Nat.mul_le_mul_right _ (by omega)
    omega
  have Hsm : Hid (sm deg n ≤ 131072) := hsm
  clear hg ht hd hsm
  go_enter Try.func10, Try.ntmps10
  go_wp2
  clear hBw hmk
  go_loopw [6] (fun i wr => ∃ x : Nat, x ≤ n ∧ i = .int .i64 x ∧ CountAt w B n (sf deg tg x 0) wr) (fun i _ => n - (intOf i).toNat)
  case atStart => exact ⟨0, Nat.zero_le _, rfl, HS.out⟩
  case round =>
    obtain ⟨x, hx, rfl, hV⟩ := hrel
    clear HS
    by_cases hlt : x < n
    · obtain ⟨b, off, hao, hbB, ro, rc, hc, hce⟩ := HR.out x hlt
      subst hao
      have hdx := HD.out x hlt
      have R0 : Hid (w.cell? ⟨b, off + x, none⟩ = some (.slice ro (deg x) rc)) := hc
      have HE : Hid (0 < deg x → ∃ rb rf, ro = some ⟨rb, rf, none⟩ ∧ ∀ k, k < deg x → rb < B ∧ w.cell? ⟨rb, rf + k, none⟩ = some (.int .i64 (tg x k : Nat))) := hce
      have HV : Hid (CountAt w B n (sf deg tg x 0) wr) := hV
      clear hV hc hce
      go_wp2
      go_loopw [7] (fun i wr => ∃ k : Nat, k ≤ deg x ∧ i = .int .i64 k ∧ CountAt w B n (sf deg tg x k) wr) (fun i _ => deg x - (intOf i).toNat)
      case atStart => exact ⟨0, Nat.zero_le _, rfl, HV.out⟩
      case round =>
        obtain ⟨k, hk, rfl, hV⟩ := hrel
        clear HV
        have r1 : wr.cell? ⟨b, off + x, none⟩ = some (.slice ro (deg x) rc) := by rw [hV.1.cell hbB]; exact R0.out
        by_cases hkl : k < deg x
        · obtain ⟨rb, rf, hro, hcells⟩ := HE.out (by omega)
          subst hro
          obtain ⟨hrB, hck⟩ := hcells k hkl
          obtain ⟨t, hte⟩ : ∃ t, t = tg x k := ⟨_, rfl⟩
          have htn : t < n := by rw [hte]; exact HT.out x k hlt hkl
          have r2 : wr.cell? ⟨rb, rf + k, none⟩ = some (.int .i64 (t : Nat)) := by rw [hV.1.cell hrB, hte]; exact hck
          obtain ⟨y, hy⟩ : ∃ y, y = cn deg tg x k t := ⟨_, rfl⟩
          have hym : y ≤ 131072 := by rw [hy]; exact Nat.le_trans (cn_le hlt hk) Hsm.out
          have q2 : wr.cell? ⟨B, t + 1, none⟩ = some (.int .i64 (y : Nat)) := by
            rw [hV.2.2.cell (show t + 1 < n + 1 by omega), hy]
            unfold sf
            rw [if_neg (by omega)]
            rfl
          have q3 := hV.2.2.frozen (t + 1)
          have HN : Hid (CountAt w B n (sf deg tg x (k + 1)) (wr.setCell ⟨B, t + 1, none⟩ (.int .i64 ((y : Int) + 1)))) := hV.edge hte.symm hy
          clear hV hcells hck hte hy
          go_wp2
          go_roundw
          case rel => exact ⟨k + 1, by omega, by go_num, HN.out⟩
          case measure => simp [intOf]; omega
        · have hke : k = deg x := by omega
          subst hke
          have HN : Hid (CountAt w B n (sf deg tg (x + 1) 0) wr) := hV.next
          clear hV
          go_wp2
          go_roundw
          case rel => exact ⟨x + 1, by omega, by go_num, HN.out⟩
          case measure => simp [intOf]; omega
    · have hxn : n = x := by omega
      subst hxn
      have HV : Hid (CountAt w B n (pf d 0) wr) := by rw [Hd.out]; exact hV.sums
      clear hV
      go_wp2
      go_loopw [8] (fun i wr => ∃ k : Nat, k ≤ n ∧ i = .int .i64 k ∧ CountAt w B n (pf d k) wr) (fun i _ => n - (intOf i).toNat)
      case atStart => exact ⟨0, Nat.zero_le _, rfl, HV.out⟩
      case round =>
        obtain ⟨k, hk, rfl, hV⟩ := hrel
        clear HV
        by_cases hkl : k < n
        · obtain ⟨a, ha⟩ : ∃ a, a = d k := ⟨_, rfl⟩
          obtain ⟨c, hc⟩ : ∃ c, c = sm d k := ⟨_, rfl⟩
          have ham : a ≤ 131072 := by rw [ha]; exact HDm.out k
          have hcm : c ≤ 8589934592 := by rw [hc]; exact HSM.out k hk
          have q1 : wr.cell? ⟨B, k + 1, none⟩ = some (.int .i64 (a : Nat)) := by
            rw [hV.2.2.cell (show k + 1 < n + 1 by omega), ha]
            unfold pf
            rw [if_neg (by omega)]
            rfl
          have q2 : wr.cell? ⟨B, k, none⟩ = some (.int .i64 (c : Nat)) := by
            rw [hV.2.2.cell (show k < n + 1 by omega), hc]
            unfold pf
            rw [if_pos (by omega)]
          have q3 := hV.2.2.frozen (k + 1)
          have HN : Hid (CountAt w B n (pf d (k + 1)) (wr.setCell ⟨B, k + 1, none⟩ (.int .i64 ((a : Int) + (c : Int)))).drew) := (hV.sum ha hc).drew
          clear hV ha hc
          go_upto_region 13 with fail
          go_region
          go_wp2
          go_roundw
          case rel => exact ⟨k + 1, by omega, by go_num, HN.out⟩
          case measure => simp [intOf]; omega
        · have hkn : n = k := by omega
          subst hkn
          obtain ⟨M, hM⟩ : ∃ M, M = sm d n := ⟨_, rfl⟩
          have hMm : M ≤ 8589934592 := by rw [hM]; exact HSM.out n (Nat.le_refl _)
          have q2 : wr.cell? ⟨B, n, none⟩ = some (.int .i64 (M : Nat)) := by
            rw [hV.2.2.cell (show n < n + 1 by omega), hM]
            unfold pf
            rw [if_pos (by omega)]
          have HM : Hid (M = sm d n) := hM
          have hsz := hV.2.1
          have HL : Hid (LaidAt w B n M d (fun i => if i < 0 then sm d i else 0) (fun _ => 0) ((wr.alloc (.cells (madeCells #[.int .i64 0] M) 3)).alloc (.cells (madeCells #[.int .i64 0] n) 3))) := hV.laid M
          have hmk1 := run_make_row' (P := Try.prog) 24 3 (.int .i64 0) 8 Try.underlying24 info3 rfl .i64 .i64 M (by omega) (by omega)
          have hmk2 := run_make_row' (P := Try.prog) 24 3 (.int .i64 0) 8 Try.underlying24 info3 rfl .i64 .i64 n (by omega) (by omega)
          clear hV hM
          go_upto_region 16 with fail
          rw [show B + 1 + 1 = B + 2 from rfl]
          generalize ((wr.alloc (.cells (madeCells #[.int .i64 0] M) 3)).alloc (.cells (madeCells #[.int .i64 0] n) 3)) = W at HL ⊢
          clear hmk1 hmk2 hsz q2
          go_wp2
          go_loopw [11] (fun i wr => ∃ k : Nat, k ≤ n ∧ i = .int .i64 k ∧ LaidAt w B n M d (fun i => if i < k then sm d i else 0) (fun _ => 0) wr) (fun i _ => n - (intOf i).toNat)
          case atStart => exact ⟨0, Nat.zero_le _, rfl, HL.out⟩
          case round =>
            rename World => wz
            obtain ⟨k, hk, rfl, hV⟩ := hrel
            clear HL
            by_cases hkl : k < n
            · obtain ⟨c, hc⟩ : ∃ c, c = sm d k := ⟨_, rfl⟩
              have q1 : wz.cell? ⟨B, k, none⟩ = some (.int .i64 (c : Nat)) := by rw [hV.2.2.1.cell (show k < n + 1 by omega), hc]
              have q2 := hV.2.2.2.2.cell hkl
              have q3 := hV.2.2.2.2.frozen k
              have HN : Hid (LaidAt w B n M d (fun i => if i < k + 1 then sm d i else 0) (fun _ => 0) (wz.setCell ⟨B + 2, k, none⟩ (.int .i64 (c : Nat)))) := hV.copy hc
              clear hV hc
              go_wp2
              go_roundw
              case rel => exact ⟨k + 1, by omega, by go_num, HN.out⟩
              case measure => simp [intOf]; omega
            · have hkn : n = k := by omega
              subst hkn
              have HL : Hid (LaidAt w B n M d (fun i => sm d i + cn deg tg 0 0 i) (fun _ => 0) wz) := hV.congr (fun i hi => by rw [if_pos hi]; rfl)
              clear hV
              go_wp2
              go_loopw [12] (fun i wr => ∃ x : Nat, x ≤ n ∧ i = .int .i64 x ∧ ∃ ra, LaidAt w B n M d (fun i => sm d i + cn deg tg x 0 i) ra wr ∧ Filled n deg tg d x 0 ra) (fun i _ => n - (intOf i).toNat)
              case atStart => exact ⟨0, Nat.zero_le _, rfl, _, HL.out, filled_start _ _ _ _ _⟩
              case round =>
                rename World => wy
                obtain ⟨x, hx, rfl, ra0, hV, hF⟩ := hrel
                clear HL
                by_cases hlt : x < n
                · obtain ⟨b, off, hao, hbB, ro, rc, hc, hce⟩ := HR.out x hlt
                  subst hao
                  have hdx := HD.out x hlt
                  have R0 : Hid (w.cell? ⟨b, off + x, none⟩ = some (.slice ro (deg x) rc)) := hc
                  have HE : Hid (0 < deg x → ∃ rb rf, ro = some ⟨rb, rf, none⟩ ∧ ∀ k, k < deg x → rb < B ∧ w.cell? ⟨rb, rf + k, none⟩ = some (.int .i64 (tg x k : Nat))) := hce
                  have HV : Hid (LaidAt w B n M d (fun i => sm d i + cn deg tg x 0 i) ra0 wy ∧ Filled n deg tg d x 0 ra0) := ⟨hV, hF⟩
                  clear hV hF hc hce
                  go_wp2
                  go_loopw [13] (fun i wr => ∃ k : Nat, k ≤ deg x ∧ i = .int .i64 k ∧ ∃ ra, LaidAt w B n M d (fun i => sm d i + cn deg tg x k i) ra wr ∧ Filled n deg tg d x k ra) (fun i _ => deg x - (intOf i).toNat)
                  case atStart => exact ⟨0, Nat.zero_le _, rfl, _, HV.out⟩
                  case round =>
                    rename World => wx
                    obtain ⟨k, hk, rfl, ra, hV, hF⟩ := hrel
                    clear HV
                    have r1 : wx.cell? ⟨b, off + x, none⟩ = some (.slice ro (deg x) rc) := by rw [hV.1.cell hbB]; exact R0.out
                    by_cases hkl : k < deg x
                    · obtain ⟨rb, rf, hro, hcells⟩ := HE.out (by omega)
                      subst hro
                      obtain ⟨hrB, hck⟩ := hcells k hkl
                      obtain ⟨t, hte⟩ : ∃ t, t = tg x k := ⟨_, rfl⟩
                      have htn : t < n := by rw [hte]; exact HT.out x k hlt hkl
                      have r2 : wx.cell? ⟨rb, rf + k, none⟩ = some (.int .i64 (t : Nat)) := by rw [hV.1.cell hrB, hte]; exact hck
                      obtain ⟨p, hp⟩ : ∃ p, p = sm d t + cn deg tg x k t := ⟨_, rfl⟩
                      have hF2 : Filled n deg tg d x (k + 1) (upd ra p x) ∧ p < M := by
                        have h1 := HM.out
                        have h2 := Hd.out
                        subst h2
                        rw [h1]
                        exact hF.edge hlt hkl htn hte.symm hp
                      have hpM := hF2.2
                      have q1 : wx.cell? ⟨B + 2, t, none⟩ = some (.int .i64 (p : Nat)) := by rw [hV.2.2.2.2.cell htn, hp]
                      have q2 := hV.2.2.2.1.cell hpM
                      have q3 := hV.2.2.2.1.frozen p
                      have hV2 := hV.setRadj p x
                      have HV2 : Hid (LaidAt w B n M d (fun i => sm d i + cn deg tg x k i) (upd ra p x) (wx.setCell ⟨B + 1, p, none⟩ (.int .i64 (x : Nat)))) := hV2
                      have HF2 : Hid (Filled n deg tg d x (k + 1) (upd ra p x)) := hF2.1
                      have Hp : Hid (p = sm d t + cn deg tg x k t) := hp
                      have Hte : Hid (t = tg x k) := hte
                      clear hV hF hF2 hV2 hcells hck hp hte
                      go_upto_region 28 with fail
                      generalize wx.setCell ⟨B + 1, p, none⟩ (.int .i64 (x : Nat)) = W2 at HV2 ⊢
                      clear q1 q2 q3 r1 r2
                      have q1 : W2.cell? ⟨B + 2, t, none⟩ = some (.int .i64 (p : Nat)) := by rw [HV2.out.2.2.2.2.cell htn, Hp.out]
                      have q3 := HV2.out.2.2.2.2.frozen t
                      have HN : Hid (LaidAt w B n M d (fun i => sm d i + cn deg tg x (k + 1) i) (upd ra p x) (W2.setCell ⟨B + 2, t, none⟩ (.int .i64 ((p : Int) + 1)))) := by
                        refine (HV2.out.setNext t (p + 1) (by omega)).congr (fun i _ => ?_)
                        by_cases e : i = t
                        · subst e
                          rw [upd_same, cn_step, if_pos Hte.out.symm, Hp.out]
                          rfl
                        · rw [upd_other _ _ e, cn_step, if_neg (fun h => e (by rw [Hte.out]; exact h.symm))]
                          rfl
                      clear HV2
                      go_wp2
                      go_roundw
                      case rel => exact ⟨k + 1, by omega, by go_num, _, HN.out, HF2.out⟩
                      case measure => simp [intOf]; omega
                    · have hke : k = deg x := by omega
                      subst hke
                      have HN : Hid (LaidAt w B n M d (fun i => sm d i + cn deg tg (x + 1) 0 i) ra wx ∧ Filled n deg tg d (x + 1) 0 ra) := ⟨hV, hF.next⟩
                      clear hV hF
                      go_wp2
                      go_roundw
                      case rel => exact ⟨x + 1, by omega, by go_num, _, HN.out⟩
                      case measure => simp [intOf]; omega
                · have hxn : n = x := by omega
                  subst hxn
                  have HX : Hid (LaidAt w B n M d (fun i => sm d i + cn deg tg n 0 i) ra0 wy ∧ Filled n deg tg d n 0 ra0) := ⟨hV, hF⟩
                  clear hV hF
                  go_wp2
                  go_ret2
                  have h1 := HM.out
                  subst h1
                  refine ⟨d, ra0, ?_, ?_, hMm, ?_⟩
                  · rw [HBw.out]; rfl
                  · rw [HBw.out]; exact HX.out.1.1
                  · rw [HBw.out]
                    refine ⟨HX.out.1.2.2.1, HX.out.1.2.2.2.1, fun i x hi => ?_⟩
                    have hF := HX.out.2
                    have h2 := Hd.out
                    subst h2
                    exact hF.all hi x
end Go.Proofs.Qxb6604011a.Scc
