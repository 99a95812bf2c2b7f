import Derived.Test.Qxb6604011aSame
import Derived.Test.Qxb6604011aCsrWalk
import Derived.Test.Qxb6604011aReachBack
import Derived.Deep.RegionWith
import Derived.Deep.DeepCutAuto
namespace Go.Proofs.Qxb6604011a.Scc
open Go.RowKit Go.Deep

/-- The last loop: the groups below j are through. -/
structure Far (F n : Nat) (c : Nat → Int) (j : Nat) (w wr : World) : Prop where
  below : Below F w wr
  size : F + 2 ≤ wr.heap.size
  fwd : Arr wr F 4 n n (fun i => .bool (decide (c i < (j : Int))))
  bwd : Arr wr (F + 1) 4 n n (fun i => .bool (decide (c i < (j : Int))))
/-- The same with group j through on the way forward alone. -/
structure Half (F n : Nat) (c : Nat → Int) (j : Nat) (w wr : World) : Prop where
  below : Below F w wr
  size : F + 2 ≤ wr.heap.size
  fwd : Arr wr F 4 n n (fun i => .bool (decide (c i < (j : Int) + 1)))
  bwd : Arr wr (F + 1) 4 n n (fun i => .bool (decide (c i < (j : Int))))
section
variable {F n j : Nat} {c : Nat → Int} {w wr w1 : World} {grp : List (List Nat)} {lo : Nat} {v : Value}
theorem far_start (w : World) (n : Nat) (c : Nat → Int) (hc : ∀ i, i < n → 0 ≤ c i) : Far w.heap.size n c 0 w ((w.alloc (.cells (madeCells #[.bool false] n) 4)).alloc (.cells (madeCells #[.bool false] n) 4)) := by
  have a1 := Arr_made w (.bool false) n 4
  have a2 := Arr_made (w.alloc (.cells (madeCells #[.bool false] n) 4)) (.bool false) n 4
  rw [nblk_alloc] at a2
  have h0 : ∀ i, i < n → (Value.bool false) = .bool (decide (c i < ((0 : Nat) : Int))) := fun i hi => by
    have := hc i hi
    rw [decide_eq_false (by omega)]
  exact ⟨((Below.refl _ _).alloc (Nat.le_refl _) _).alloc (by rw [nblk_alloc]; omega) _, by rw [nblk_alloc, nblk_alloc]; omega, (a1.alloc _).congr h0, a2.congr h0⟩
theorem Far.drewN (h : Far F n c j w wr) (k : Nat) : Far F n c j w (wr.drewN k) := ⟨below_drewN h.below k, h.size, h.fwd.of_block rfl, h.bwd.of_block rfl⟩
theorem Half.drewN (h : Half F n c j w wr) (k : Nat) : Half F n c j w (wr.drewN k) := ⟨below_drewN h.below k, h.size, h.fwd.of_block rfl, h.bwd.of_block rfl⟩
theorem Far.drew (h : Far F n c j w wr) : Far F n c j w wr.drew := h.drewN 1
theorem Half.drew (h : Half F n c j w wr) : Half F n c j w wr.drew := h.drewN 1
theorem Far.half (h : Far F n c j w wr) (hk : Kept F F wr w1) (hA : Arr w1 F 4 n n (fun i => .bool (decide (c i < (j : Int) + 1)))) : Half F n c j w w1 :=
  ⟨h.below.trans hk.below, Nat.le_trans h.size hk.below.size, hA, h.bwd.of_block (hk.keep (F + 1) (by have := h.size; omega) (by omega))⟩
theorem Half.far (h : Half F n c j w wr) (hk : Kept F (F + 1) wr w1) (hA : Arr w1 (F + 1) 4 n n (fun i => .bool (decide (c i < (j : Int) + 1)))) : Far F n c (j + 1) w w1 :=
  ⟨h.below.trans hk.below, Nat.le_trans h.size hk.below.size, h.fwd.of_block (hk.keep F (by have := h.size; omega) (by omega)), hA⟩
theorem reads_of_j (hG : Grps w lo v grp (fun _ => False)) (hP : Part n c grp) (hj : j < grp.length) :
    ∃ (g cap r rc h : Nat), v = .slice (some ⟨g, 0, none⟩) grp.length cap ∧ w.cell? ⟨g, j, none⟩ = some (.slice (some ⟨r, 0, none⟩) (grp.getD j []).length rc) ∧ 0 < (grp.getD j []).length ∧ w.cell? ⟨r, 0, none⟩ = some (.int .i64 (h : Nat)) ∧ h < n ∧ c h = j := by
  rcases hG with ⟨_, rfl⟩ | ⟨g, cap, r, rc, rfl, _, _, hA, hR⟩
  · simp at hj
  · have hL : 0 < (grp.getD j []).length := List.length_pos_iff.2 (hP.nd j hj).2
    obtain ⟨a1, a2⟩ := hP.head hj
    exact ⟨g, cap, r j, rc j, _, rfl, hA.cell hj, hL, (hR j hj).2.2.cell hL, a2, a1⟩
end

set_option maxHeartbeats 2000000 in
set_option maxRecDepth 100000 in
theorem cond3 (w : World) (v : Value) (n : Nat) (deg : Nat → Nat) (tz : Nat → Nat → Int) (hr : RowsAt w v n deg tz) : Calls Try.prog 3 #[v] w (Holds w) := by
  have H5 : Hid (Calls Try.prog 5 #[v] w (Tells w)) := bytes5 w v n deg tz hr
  have H6 : Hid (n ≤ 1048576 → (∀ i, i < n → deg i ≤ 1048576) → Calls Try.prog 6 #[v] w (Ranged w n deg tz)) := range6 w v n deg tz hr
  have H7 : Hid (n ≤ 65536 → (∀ i, i < n → deg i ≤ 1048576) → Calls Try.prog 7 #[v] w (Cloned w n deg tz)) := clone7 w v n deg tz hr
  obtain ⟨ao, cap, rfl, _, hg⟩ := hr
  have HR : Hid (∀ i, i < n → ∃ b off, ao = some ⟨b, off, none⟩ ∧ ∃ ro rc, w.cell? ⟨b, off + i, none⟩ = some (.slice ro (deg i) rc)) := fun i hi => by
    obtain ⟨b, off, e, hrow⟩ := hg (by omega)
    obtain ⟨ro, rc, h, _⟩ := hrow i hi
    exact ⟨b, off, e, ro, rc, h⟩
  clear hg
  go_enter Try.func3, Try.ntmps3
  go_wp2_with fail
  refine H5.out.mono ?_
  rintro e w1 ⟨hw, bb, rfl⟩
  have hw := hw.symm
  subst hw
  cases bb with
  | false =>
    go_wp2
    go_ret
    exact ⟨rfl, Below.refl _ _⟩
  | true =>
    by_cases hn : n ≤ 65536
    · go_wp2
      go_loop [3, 4] (fun z i => ∃ k y : Nat, k ≤ n ∧ i = .int .i64 k ∧ z = .int .i64 y ∧ y = 8 * (n + sm deg k) ∧ y ≤ 1048576 ∧ ∀ i, i < k → deg i ≤ 131072) (fun _ i => n - (intOf i).toNat)
      case atStart => exact ⟨0, 8 * n, Nat.zero_le _, rfl, by go_num, by simp [sm], by omega, fun i h => absurd h (by omega)⟩
      case round =>
        obtain ⟨k, y, hk, rfl, rfl, hy, hym, hdd⟩ := hrel
        have HY : Hid (y = 8 * (n + sm deg k)) := hy
        have HDD : Hid (∀ i, i < k → deg i ≤ 131072) := hdd
        clear hy hdd
        by_cases hlt : k < n
        · obtain ⟨b, off, hao, ro, rc, hc⟩ := HR.out k hlt
          subst hao
          by_cases h1 : deg k ≤ 131072
          · by_cases h2 : y + 8 * deg k ≤ 1048576
            · go_wp2
              go_round
              case rel => exact ⟨k + 1, y + 8 * deg k, by omega, by go_num, by go_num, by rw [HY.out]; simp only [sm]; omega, h2, fun i hi => if e : i = k then by rw [e]; exact h1 else HDD.out i (by omega)⟩
              case measure => simp [intOf]; omega
            · go_wp2
              go_ret
              exact ⟨rfl, Below.refl _ _⟩
          · go_wp2
            go_ret
            exact ⟨rfl, Below.refl _ _⟩
        · have hkn : n = k := by omega
          subst hkn
          have hsm : sm deg n ≤ 131072 := by have := HY.out; omega
          have Hsm : Hid (sm deg n ≤ 131072) := hsm
          have HD : Hid (∀ i, i < n → deg i ≤ 1048576) := fun i hi => by have := HDD.out i hi; omega
          have H6' : Hid (Calls Try.prog 6 #[.slice ao n cap] w (Ranged w n deg tz)) := H6.out (by omega) HD.out
          have H7' : Hid (Calls Try.prog 7 #[.slice ao n cap] w (Cloned w n deg tz)) := H7.out hn HD.out
          clear H6 H7 HY HDD H5 HR hsm
          go_wp2_with fail
          refine H6'.out.mono ?_
          rintro e w1 ⟨hw, hrg | ⟨hrg, hrange⟩⟩ <;> have hw := hw.symm <;> subst hw
          · subst hrg
            go_wp2
            go_ret
            exact ⟨rfl, Below.refl _ _⟩
          · subst hrg
            have HRG : Hid (∀ i k, i < n → k < deg i → 0 ≤ tz i k ∧ tz i k < n) := hrange
            clear hrange
            go_wp2_with fail
            refine H7'.out.mono ?_
            rintro e w1 ⟨v', rfl, hrow, hb1⟩
            obtain ⟨tg, htg⟩ : ∃ tg : Nat → Nat → Nat, tg = fun i k => (tz i k).toNat := ⟨_, rfl⟩
            have HG1 : Hid (GraphAt w1 v' n deg tg) := by rw [htg]; exact hrow.graph HRG.out
            have HT : Hid (∀ i k, i < n → k < deg i → tg i k < n) := fun i k hi hk => by
              have := HRG.out i k hi hk
              rw [htg]
              show (tz i k).toNat < n
              omega
            have HB1 : Hid (Below w.heap.size w w1) := hb1
            obtain ⟨ao1, cap1, hv1, _⟩ := id HG1.out
            subst hv1
            have H8 : Hid (Calls Try.prog 8 #[.slice ao1 n cap1] w1 (SccPost w1 n deg tg)) := zz_all w1 _ n deg tg HG1.out hn HT.out HD.out
            clear hrow hb1 htg H6' H7' HRG
            go_wp2_with fail
            refine H8.out.mono ?_
            rintro e w3 ⟨gv, rfl, hoa, hb3⟩
            obtain ⟨c, grp, hGa, hQa⟩ := hoa.groups
            have HQ : Hid (Groups n deg tg c grp) := hQa
            have HGr : Hid (Grps w3 (w1.heap.size + 8) gv grp (fun _ => False)) := hGa
            have HB3 : Hid (Below w1.heap.size w1 w3) := hb3
            have H9 : Hid (Calls Try.prog 9 #[gv, .int .i64 n] w3 (CompOut w3 n c)) := group9 w3 gv _ n c grp hGa hQa.part hn (fun j hj => Nat.le_trans (hQa.part.small.2 j hj) hn) (Nat.le_trans hQa.part.small.1 hn)
            obtain ⟨aog, capg, eg⟩ := grps_len hGa
            obtain ⟨GL, hGL⟩ : ∃ GL, GL = grp.length := ⟨_, rfl⟩
            have hGLn : GL ≤ n := by rw [hGL]; exact hQa.part.small.1
            rw [← hGL] at eg
            have HGL : Hid (GL = grp.length) := hGL
            subst eg
            clear hoa hb3 hGa hQa hGL H8
            go_wp2_with fail
            refine H9.out.mono ?_
            rintro e w6 ⟨rfl, hca⟩
            have HCA : Hid (CompAt w3 w3.heap.size n c w6) := hca
            obtain ⟨cb, hcb⟩ : ∃ cb, cb = w3.heap.size := ⟨_, rfl⟩
            have HC6 : Hid (Arr w6 cb 3 n n (fun i => .int .i64 (c i))) := by rw [hcb]; exact hca.2
            have HG6 : Hid (GraphAt w6 (.slice ao1 n cap1) n deg tg) := (HG1.out.below HB3.out).below hca.1
            have HGr6 : Hid (Grps w6 (w1.heap.size + 8) (.slice aog GL capg) grp (fun _ => False)) := HGr.out.below hca.1
            have HB6 : Hid (Below w.heap.size w w6) := below_up HB1.out (below_up HB3.out hca.1)
            have HR6 : Hid (∀ wz, Below w6.heap.size w6 wz → ∀ i, i < n → ∃ b off, ao1 = some ⟨b, off, none⟩ ∧ ∃ ro rc, wz.cell? ⟨b, off + i, none⟩ = some (.slice ro (deg i) rc) ∧
                (0 < deg i → ∃ rb rf, ro = some ⟨rb, rf, none⟩ ∧ ∀ k, k < deg i → wz.cell? ⟨rb, rf + k, none⟩ = some (.int .i64 (tg i k : Nat)))) := fun wz hb i hi => by
              obtain ⟨ao2, cap2, e2, _, hg2⟩ := HG6.out.below hb
              simp only [Value.slice.injEq] at e2
              obtain ⟨e2, _, _⟩ := e2
              subst e2
              obtain ⟨b, off, e, h3⟩ := hg2 (by omega)
              obtain ⟨ro, rc, a1, _, a3⟩ := h3 i hi
              exact ⟨b, off, e, ro, rc, a1, a3⟩
            rw [← hcb]
            clear hca H9 HGr HG1 HCA HB3 HB1 hcb
            go_wp2
            go_loopw [9] (fun i wr => ∃ x : Nat, x ≤ n ∧ i = .int .i64 x ∧ Below w6.heap.size w6 wr) (fun i _ => n - (intOf i).toNat)
            case atStart => exact ⟨0, Nat.zero_le _, rfl, Below.refl _ _⟩
            case round =>
              rename World => wz
              obtain ⟨x, hx, rfl, hbz⟩ := hrel
              have HBz : Hid (Below w6.heap.size w6 wz) := hbz
              clear hbz
              by_cases hlt2 : x < n
              · have hdx := HD.out x hlt2
                go_wp2
                go_loopw [10] (fun i wr => ∃ k : Nat, k ≤ deg x ∧ i = .int .i64 k ∧ Below w6.heap.size w6 wr) (fun i _ => deg x - (intOf i).toNat)
                case atStart => exact ⟨0, Nat.zero_le _, rfl, HBz.out⟩
                case round =>
                  clear HBz
                  rename World => wy
                  obtain ⟨k, hk, rfl, hby⟩ := hrel
                  obtain ⟨b, off, hao, ro, rc, r1, hce⟩ := HR6.out wy hby x hlt2
                  subst hao
                  by_cases hkl : k < deg x
                  · obtain ⟨rb, rf, hro, hcells⟩ := hce (by omega)
                    subst hro
                    obtain ⟨t, hte⟩ : ∃ t, t = tg x k := ⟨_, rfl⟩
                    have htn : t < n := by rw [hte]; exact HT.out x k hlt2 hkl
                    have r2 : wy.cell? ⟨rb, rf + k, none⟩ = some (.int .i64 (t : Nat)) := by rw [hte]; exact hcells k hkl
                    have r3 := (HC6.out.below hby HC6.out.lt).cell htn
                    have r4 := (HC6.out.below hby HC6.out.lt).cell hlt2
                    have hle : c t ≤ c x := by rw [hte]; exact (HQ.out.cls x (HQ.out.part.all x hlt2) k hkl).2
                    obtain ⟨ct, hct⟩ : ∃ ct, ct = c t := ⟨_, rfl⟩
                    obtain ⟨cx, hcx⟩ : ∃ cx, cx = c x := ⟨_, rfl⟩
                    rw [← hct] at r3 hle
                    rw [← hcx] at r4 hle
                    have HBy : Hid (∀ m, Below w6.heap.size w6 (wy.drewN m)) := fun m => below_drewN hby m
                    clear hby hce hcells hte hct hcx
                    go_upto_region 28 with fail
                    go_quiet (fail)
                    go_wp2
                    go_roundw
                    case rel => exact ⟨k + 1, by omega, by go_num, HBy.out _⟩
                    case measure => simp [intOf]; omega
                  · have hke : k = deg x := by omega
                    subst hke
                    have HBy : Hid (Below w6.heap.size w6 wy) := hby
                    clear hby hce
                    go_wp2
                    go_roundw
                    case rel => exact ⟨x + 1, by omega, by go_num, HBy.out⟩
                    case measure => simp [intOf]; omega
              · have hxn : n = x := by omega
                subst hxn
                have H10 : Hid (Calls Try.prog 10 #[.slice ao1 n cap1] wz (CsrOut wz n deg tg)) := rev10 wz _ n deg tg (HG6.out.below HBz.out) hn HT.out Hsm.out
                go_wp2_with fail
                refine H10.out.mono ?_
                rintro e w7 ⟨d, ra, rfl, hb7, hMm, hS7⟩
                obtain ⟨M, hM⟩ : ∃ M, M = sm d n := ⟨_, rfl⟩
                obtain ⟨tb, htb⟩ : ∃ tb, tb = wz.heap.size := ⟨_, rfl⟩
                rw [← hM] at hMm ⊢
                rw [← htb] at hS7 ⊢
                obtain ⟨hs1, hs2, hs3⟩ := hS7
                have HS : Hid (Arr w7 tb 3 (n + 1) (n + 1) (fun i => .int .i64 (sm d i : Nat)) ∧ Arr w7 (tb + 1) 3 M M (fun i => .int .i64 (ra i : Nat))) := ⟨hs1, by rw [hM]; exact hs2⟩
                have HE : Hid (∀ i x, i < n → (Edge d (fun i j => ra (sm d i + j)) i x ↔ (x < n ∧ Edge deg tg x i))) := hs3
                have HM : Hid (M = sm d n) := hM
                have HT' : Hid (∀ i k, i < n → k < d i → ra (sm d i + k) < n) := fun i k hi hk => ((hs3 i _ hi).1 ⟨k, hk, rfl⟩).1
                have HG7 : Hid (GraphAt w7 (.slice ao1 n cap1) n deg tg) := (HG6.out.below HBz.out).below hb7
                have HGr7 : Hid (Grps w7 (w1.heap.size + 8) (.slice aog GL capg) grp (fun _ => False)) := (HGr6.out.below HBz.out).below hb7
                have HC7 : Hid (Arr w7 cb 3 n n (fun i => .int .i64 (c i))) := by
                  have h1 := HC6.out.below HBz.out HC6.out.lt
                  exact h1.below hb7 h1.lt
                have HB7 : Hid (Below w.heap.size w w7) := below_up HB6.out (below_up HBz.out hb7)
                obtain ⟨F, hF⟩ : ∃ F, w7.heap.size = F := ⟨_, rfl⟩
                have HF : Hid (w7.heap.size = F) := hF
                have HFar : Hid (Far F n c 0 w7 ((w7.alloc (.cells (madeCells #[.bool false] n) 4)).alloc (.cells (madeCells #[.bool false] n) 4))) := hF ▸ far_start w7 n c HQ.out.part.all
                have hmb := run_make_row' (P := Try.prog) 30 4 (.bool false) 1 Try.underlying30 info4 rfl .i64 .i64 n (by omega) (by omega)
                clear hs1 hs2 hs3 hM htb hb7 H10 HG6 HGr6 HC6 HB6 HBz HR6
                go_upto_region 33 with fail
                generalize ((w7.alloc (.cells (madeCells #[.bool false] n) 4)).alloc (.cells (madeCells #[.bool false] n) 4)) = W at HFar ⊢
                clear hF hmb
                go_wp2
                go_loopg [15] GL (fun G i wr => ∃ j : Nat, j ≤ GL ∧ i = .int .i64 j ∧ G = GL - j ∧ Far F n c j w7 wr)
                case atStart => exact ⟨0, Nat.zero_le _, rfl, rfl, HFar.out⟩
                case round =>
                  clear HFar
                  rename World => wx
                  obtain ⟨j, hj, rfl, hG, hV⟩ := hrel
                  have HV : Hid (Far F n c j w7 wx) := hV
                  clear hV
                  by_cases hjl : j < GL
                  · obtain ⟨g0, cap0, r, rc, h, hva, c1, hL0, c2, hhn, hch⟩ := reads_of_j (HGr7.out) HQ.out.part (show j < grp.length by rw [← HGL.out]; exact hjl)
                    simp only [Value.slice.injEq] at hva
                    obtain ⟨hva1, hva2, hva3⟩ := hva
                    subst hva1
                    clear hva2 hva3
                    obtain ⟨L, hL⟩ : ∃ L, L = (grp.getD j []).length := ⟨_, rfl⟩
                    rw [← hL] at c1 hL0
                    have hLn : L ≤ n := by rw [hL]; exact HQ.out.part.small.2 j (by rw [← HGL.out]; exact hjl)
                    have hup : ∀ W, Below F w7 W → Below w7.heap.size w7 W := fun W hb => by rw [HF.out]; exact hb
                    have HC1 : Hid (∀ W, Below F w7 W → W.cell? ⟨g0, j, none⟩ = some (.slice (some ⟨r, 0, none⟩) L rc)) := fun W hb => by rw [hb.cell (by rw [← HF.out]; exact World.block_lt_of_cell? w7 _ c1)]; exact c1
                    have H11 : Hid (∀ W, Far F n c j w7 W → Calls Try.prog 11 #[.slice ao1 n cap1, .slice (some ⟨cb, 0, none⟩) n n, .int .i64 h, .slice (some ⟨F, 0, none⟩) n n] W (Reached F F W n c j L)) := fun W hW => by
                      rw [hL]
                      exact reach11 W _ F F cb n deg tg c j h _ (HG7.out.below (hup W hW.below)) hn HT.out HD.out hW.fwd (HC7.out.below (hup W hW.below) HC7.out.lt) (Nat.le_refl _) hhn hch (HQ.out.forward hhn hch) (HQ.out.part.nd j (by rw [← HGL.out]; exact hjl)).1 (fun v => HQ.out.part.mem j v (by rw [← HGL.out]; exact hjl))
                    have H12 : Hid (∀ W, Half F n c j w7 W → Calls Try.prog 12 #[.slice (some ⟨tb, 0, none⟩) (n + 1) (n + 1), .slice (some ⟨tb + 1, 0, none⟩) M M, .slice (some ⟨cb, 0, none⟩) n n, .int .i64 h, .slice (some ⟨F + 1, 0, none⟩) n n] W (Reached F (F + 1) W n c j L)) := fun W hW => by
                      rw [hL]
                      exact reach12 W F (F + 1) cb tb (tb + 1) n M d ra c j h _ hn HM.out hMm HT'.out hW.bwd (HC7.out.below (hup W hW.below) HC7.out.lt) (HS.out.1.below (hup W hW.below) HS.out.1.lt) (HS.out.2.below (hup W hW.below) HS.out.2.lt) (Nat.le_succ _) hhn hch (HQ.out.backward hhn hch HE.out) (HQ.out.part.nd j (by rw [← HGL.out]; exact hjl)).1 (fun v => HQ.out.part.mem j v (by rw [← HGL.out]; exact hjl))
                    have q1 := HC1.out wx HV.out.below
                    have q2 : wx.cell? ⟨r, 0, none⟩ = some (.int .i64 (h : Nat)) := by rw [HV.out.below.cell (by rw [← HF.out]; exact World.block_lt_of_cell? w7 _ c2)]; exact c2
                    have HG : Hid (gk = GL - j) := hG
                    clear c1 c2 hch hL hup hG
                    go_upto_region 37 with fail
                    go_cut [125] from 103 to 137 (fun s wy => s = .bool false ∧ Half F n c j w7 wy)
                    case first =>
                      go_region_with (go_at_call 11; refine (H11.out _ HV.out.drew).mono ?_; rintro e w9 ⟨rfl, hK, hA9⟩; have k0 := HC1.out w9 (HV.out.drew.half hK hA9).below)
                      all_goals (try go_wp2_with fail)
                      all_goals go_meet
                      all_goals exact ⟨rfl, HV.out.drew.half hK hA9⟩
                    case rest =>
                      obtain ⟨rfl, hH⟩ := hcut
                      have HH : Hid (Half F n c j w7 wc) := hH
                      clear hH HV q1 q2
                      have q1 := HC1.out wc HH.out.below
                      go_upto_region 39 with fail
                      go_cut [137] from 103 to 137 (fun s wy => s = .bool false ∧ Far F n c (j + 1) w7 wy)
                      case first =>
                        go_region_with (go_at_call 12; refine (H12.out _ HH.out.drew).mono ?_; rintro e w9 ⟨rfl, hK, hA9⟩; have k0 := HC1.out w9 (HH.out.drew.far hK hA9).below)
                        all_goals (try go_wp2_with fail)
                        all_goals go_meet
                        all_goals exact ⟨rfl, HH.out.drew.far hK hA9⟩
                      case rest =>
                        obtain ⟨rfl, hV2⟩ := hcut
                        have HV2 : Hid (∀ w', w' = wc → Far F n c (j + 1) w7 w') := fun w' e => e ▸ hV2
                        clear hV2 HH q1
                        go_wp2
                        go_roundg (GL - (j + 1))
                        case measure => rw [HG.out]; omega
                        case rel => exact ⟨j + 1, by omega, by go_num, rfl, HV2.out _ rfl⟩
                  · have HO : Hid (Holds w (.returned (.bool true)) wx) := ⟨rfl, below_up HB7.out (by rw [HF.out]; exact HV.out.below)⟩
                    clear hG
                    go_wp2
                    go_ret
                    exact HO.out
    · go_wp2
      go_ret
      exact ⟨rfl, Below.refl _ _⟩
end Go.Proofs.Qxb6604011a.Scc
