import Derived.Test.Qxb6604011aSame
namespace Go.Proofs.Qxb6604011a.Scc
open Go.RowKit Go.Deep

set_option maxHeartbeats 2000000 in
set_option maxRecDepth 100000 in
theorem same4 (w : World) (v : Value) (n : Nat) (deg : Nat → Nat) (tz : Nat → Nat → Int) (hr : RowsAt w v n deg tz) : Calls Try.prog 4 #[v] w (Holds w) := by
  have H13 : Hid (Calls Try.prog 13 #[v] w (Tells w)) := bytes13 w v n deg tz hr
  have H6 : Hid (n ≤ 1048576 → (∀ i, i < n → deg i ≤ 1048576) → Calls Try.prog 6 #[v] w (Ranged w n deg tz)) := range6 w v n deg tz hr
  have H7 : Hid (n ≤ 65536 → (∀ i, i < n → deg i ≤ 1048576) → Calls Try.prog 7 #[v] w (Cloned w n deg tz)) := clone7 w v n deg tz hr
  obtain ⟨ao, cap, rfl, _, hg⟩ := hr
  have HR : Hid (∀ i, i < n → ∃ b off, ao = some ⟨b, off, none⟩ ∧ ∃ ro rc, w.cell? ⟨b, off + i, none⟩ = some (.slice ro (deg i) rc)) := fun i hi => by
    obtain ⟨b, off, e, hrow⟩ := hg (by omega)
    obtain ⟨ro, rc, h, _⟩ := hrow i hi
    exact ⟨b, off, e, ro, rc, h⟩
  clear hg
  go_enter Try.func4, Try.ntmps4
  go_wp2_with fail
  refine H13.out.mono ?_
  rintro e w1 ⟨hw, bb, rfl⟩
  have hw := hw.symm
  subst hw
  cases bb with
  | false =>
    go_wp2
    go_ret
    exact ⟨rfl, Below.refl _ _⟩
  | true =>
    by_cases hn : n ≤ 65536
    · go_wp2
      go_loop [3, 4] (fun z i => ∃ k y : Nat, k ≤ n ∧ i = .int .i64 k ∧ z = .int .i64 y ∧ y = 8 * (n + sm deg k) ∧ y ≤ 1048576 ∧ ∀ i, i < k → deg i ≤ 131072) (fun _ i => n - (intOf i).toNat)
      case atStart => exact ⟨0, 8 * n, Nat.zero_le _, rfl, by go_num, by simp [sm], by omega, fun i h => absurd h (by omega)⟩
      case round =>
        obtain ⟨k, y, hk, rfl, rfl, hy, hym, hdd⟩ := hrel
        have HY : Hid (y = 8 * (n + sm deg k)) := hy
        have HDD : Hid (∀ i, i < k → deg i ≤ 131072) := hdd
        clear hy hdd
        by_cases hlt : k < n
        · obtain ⟨b, off, hao, ro, rc, hc⟩ := HR.out k hlt
          subst hao
          by_cases h1 : deg k ≤ 131072
          · by_cases h2 : y + 8 * deg k ≤ 1048576
            · go_wp2
              go_round
              case rel => exact ⟨k + 1, y + 8 * deg k, by omega, by go_num, by go_num, by rw [HY.out]; simp only [sm]; omega, h2, fun i hi => if e : i = k then by rw [e]; exact h1 else HDD.out i (by omega)⟩
              case measure => simp [intOf]; omega
            · go_wp2
              go_ret
              exact ⟨rfl, Below.refl _ _⟩
          · go_wp2
            go_ret
            exact ⟨rfl, Below.refl _ _⟩
        · have hkn : n = k := by omega
          subst hkn
          have hsm : sm deg n ≤ 131072 := by have := HY.out; omega
          have HD : Hid (∀ i, i < n → deg i ≤ 1048576) := fun i hi => by have := HDD.out i hi; omega
          have H6' : Hid (Calls Try.prog 6 #[.slice ao n cap] w (Ranged w n deg tz)) := H6.out (by omega) HD.out
          have H7' : Hid (Calls Try.prog 7 #[.slice ao n cap] w (Cloned w n deg tz)) := H7.out hn HD.out
          clear H6 H7 HY HDD H13 HR
          go_wp2_with fail
          refine H6'.out.mono ?_
          rintro e w1 ⟨hw, hrg | ⟨hrg, hrange⟩⟩ <;> have hw := hw.symm <;> subst hw
          · subst hrg
            go_wp2
            go_ret
            exact ⟨rfl, Below.refl _ _⟩
          · subst hrg
            have HRG : Hid (∀ i k, i < n → k < deg i → 0 ≤ tz i k ∧ tz i k < n) := hrange
            clear hrange
            go_wp2_with fail
            refine H7'.out.mono ?_
            rintro e w1 ⟨v', rfl, hrow, hb1⟩
            obtain ⟨tg, htg⟩ : ∃ tg : Nat → Nat → Nat, tg = fun i k => (tz i k).toNat := ⟨_, rfl⟩
            have HG1 : Hid (GraphAt w1 v' n deg tg) := by rw [htg]; exact hrow.graph HRG.out
            have HT : Hid (∀ i k, i < n → k < deg i → tg i k < n) := fun i k hi hk => by
              have := HRG.out i k hi hk
              rw [htg]
              show (tz i k).toNat < n
              omega
            have HB1 : Hid (Below w.heap.size w w1) := hb1
            obtain ⟨ao1, cap1, hv1, _, hg1⟩ := id HG1.out
            subst hv1
            have HR1 : Hid (∀ i, i < n → ∃ b off, ao1 = some ⟨b, off, none⟩ ∧ b < w1.heap.size ∧ ∃ ro rc, w1.cell? ⟨b, off + i, none⟩ = some (.slice ro (deg i) rc) ∧
                (0 < deg i → ∃ rb rf, ro = some ⟨rb, rf, none⟩ ∧ ∀ k, k < deg i → rb < w1.heap.size ∧ w1.cell? ⟨rb, rf + k, none⟩ = some (.int .i64 (tg i k : Nat)))) := fun i hi => by
              obtain ⟨b, off, e, h3⟩ := hg1 (by omega)
              obtain ⟨ro, rc, a1, _, a3⟩ := h3 i hi
              refine ⟨b, off, e, World.block_lt_of_cell? w1 _ a1, ro, rc, a1, fun hd => ?_⟩
              obtain ⟨rb, rf, e1, e2⟩ := a3 hd
              exact ⟨rb, rf, e1, fun k hk => ⟨World.block_lt_of_cell? w1 _ (e2 k hk), e2 k hk⟩⟩
            obtain ⟨B, hB⟩ : ∃ B, w1.heap.size = B := ⟨_, rfl⟩
            have HB : Hid (w1.heap.size = B) := hB
            have HS : Hid (RevAt w1 B n deg tg 0 0 (w1.alloc (.cells (madeCells #[.slice none 0 0] n) 24))) := hB ▸ rev_start w1 n deg tg
            have hmk := run_make_row' (P := Try.prog) 22 24 (.slice none 0 0) 24 Try.underlying22 info24 rfl .i64 .i64 n (by omega) (by omega)
            clear hrow hb1 hg1 htg H6' H7' HRG
            go_wp2
            clear hB hmk
            go_loopw [7] (fun i wr => ∃ x : Nat, x ≤ n ∧ i = .int .i64 x ∧ RevAt w1 B n deg tg x 0 wr) (fun i _ => n - (intOf i).toNat)
            case atStart => exact ⟨0, Nat.zero_le _, rfl, HS.out⟩
            case round =>
              obtain ⟨x, hx, rfl, hV⟩ := hrel
              clear HS
              by_cases hlt2 : x < n
              · obtain ⟨b, off, hao, hbB, ro, rc, hc, hce⟩ := HR1.out x hlt2
                subst hao
                have hdx := HD.out x hlt2
                rw [HB.out] at hbB
                have r1 : wr.cell? ⟨b, off + x, none⟩ = some (.slice ro (deg x) rc) := by rw [hV.1.cell hbB]; exact hc
                have R0 : Hid (w1.cell? ⟨b, off + x, none⟩ = some (.slice ro (deg x) rc)) := hc
                have HE : Hid (0 < deg x → ∃ rb rf, ro = some ⟨rb, rf, none⟩ ∧ ∀ k, k < deg x → rb < w1.heap.size ∧ w1.cell? ⟨rb, rf + k, none⟩ = some (.int .i64 (tg x k : Nat))) := hce
                have HV : Hid (RevAt w1 B n deg tg x 0 wr) := hV
                clear hV hc hce r1
                go_wp2
                go_loopw [8] (fun i wr => ∃ k : Nat, k ≤ deg x ∧ i = .int .i64 k ∧ RevAt w1 B n deg tg x k wr) (fun i _ => deg x - (intOf i).toNat)
                case atStart => exact ⟨0, Nat.zero_le _, rfl, HV.out⟩
                case round =>
                  obtain ⟨k, hk, rfl, hV⟩ := hrel
                  clear HV
                  have r1 : wr.cell? ⟨b, off + x, none⟩ = some (.slice ro (deg x) rc) := by rw [hV.1.cell hbB]; exact R0.out
                  by_cases hkl : k < deg x
                  · obtain ⟨rb, rf, hro, hcells⟩ := HE.out (by omega)
                    subst hro
                    obtain ⟨hrB, hck⟩ := hcells k hkl
                    rw [HB.out] at hrB
                    have r2 : wr.cell? ⟨rb, rf + k, none⟩ = some (.int .i64 (tg x k : Nat)) := by rw [hV.1.cell hrB]; exact hck
                    have hyn := HT.out x k hlt2 hkl
                    obtain ⟨val, ys, c1, c2, hI, hyl, ⟨vo, vc, hval⟩, happ⟩ := hV.row hyn hkl rfl
                    have hIA := ints_any hI
                    obtain ⟨y, hy⟩ : ∃ y, y = tg x k := ⟨_, rfl⟩
                    obtain ⟨Y, hY⟩ : ∃ Y, Y = ys.length := ⟨_, rfl⟩
                    have hYm : Y ≤ 1179648 := by
                      have h1 := sm_mono deg x (n - x)
                      rw [show x + (n - x) = n by omega] at h1
                      rw [hY]; omega
                    rw [← hy] at r2 hyn c1 c2 happ
                    rw [← hY] at happ hIA hval
                    subst hval
                    have HAPP : Hid (∀ o val' w5, Appended (wr.alloc o) (Value.slice vo Y vc).ownBlock 3 1 Y 1 (intf ys) [.int .i64 (x : Nat)] val' w5 →
                        RevAt w1 B n deg tg x (k + 1) (w5.setCell ⟨B, y, none⟩ val') ∧ w5.cell? ⟨B, y, none⟩ = some (Value.slice vo Y vc) ∧ w5.frozen? ⟨B, y, none⟩ = false ∧ ∃ xr xc, val' = .slice (some ⟨xr, 0, none⟩) (Y + 1) xc) := happ
                    have HIA : Hid (∀ o, (Value.slice vo Y vc = .slice none 0 0 ∧ Y = 0) ∨ ∃ g cap, Value.slice vo Y vc = .slice (some ⟨g, 0, none⟩) Y cap ∧ Arr (wr.alloc o) g 3 (cap * 1) (Y * 1) (intf ys) ∧ cap ≤ maxLen) := fun o => hIA.imp id (fun ⟨g, cap, h1, h2, h3⟩ => ⟨g, cap, h1, h2.alloc o, h3⟩)
                    clear hcells hck hI hyl happ hIA hy hY hV
                    obtain ⟨i0, hi, hz0, hz1, hz2⟩ := info_parts info3
                    go_wp2_with (at_builtin; refine wpList_append_any _ rfl (.tmp 83) (.tmp 85) 24 rfl 3 i0 (.int .i64 0) 1 8 Try.underlying24 hi hz0 hz1 hz2 rfl (Value.slice vo Y vc) Y (intf ys) rfl ?ca ⟨wr.heap.size, 0, none⟩ 1 1 [.int .i64 x] rfl rfl ?cb ?cc ?cd ?ce ?cf ?_)
                    case ca => exact HIA.out _
                    case cb =>
                      intro j u hj
                      match j, hj with
                      | 0, hj => simp at hj; subst hj; simp [Addr.add]
                    case cc =>
                      intro u hu
                      simp at hu
                      subst hu
                      rfl
                    case cd => omega
                    case ce => unfold maxLen; omega
                    case cf => omega
                    intro val' w5 hap
                    obtain ⟨hV5, d1, d2, xr, xc, hv'⟩ := HAPP.out _ _ _ hap
                    subst hv'
                    have HV5 : Hid (RevAt w1 B n deg tg x (k + 1) (w5.setCell ⟨B, y, none⟩ (.slice (some ⟨xr, 0, none⟩) (Y + 1) xc))) := hV5
                    clear hap hV5 HAPP HIA c1 c2 r1 r2 hi hz0 hz1 hz2
                    go_wp2
                    go_roundw
                    case rel => exact ⟨k + 1, by omega, by go_num, HV5.out⟩
                    case measure => simp [intOf]; omega
                  · have hke : k = deg x := by omega
                    subst hke
                    have HN : Hid (RevAt w1 B n deg tg (x + 1) 0 wr) := hV.next
                    clear hV
                    go_wp2
                    go_roundw
                    case rel => exact ⟨x + 1, by omega, by go_num, HN.out⟩
                    case measure => simp [intOf]; omega
              · have hxn : n = x := by omega
                subst hxn
                obtain ⟨deg', tg', hg2, hb2, hd2, ht2, he2⟩ := hV.graph
                have HB2 : Hid (Below w1.heap.size w1 wr) := by rw [HB.out]; exact hb2
                have H8a : Hid (Calls Try.prog 8 #[.slice ao1 n cap1] wr (SccPost wr n deg tg)) := zz_all wr _ n deg tg (HG1.out.below HB2.out) hn HT.out HD.out
                have HG2 : Hid (GraphAt wr (.slice (some ⟨B, 0, none⟩) n n) n deg' tg') := hg2
                have HD2 : Hid (∀ i, i < n → deg' i ≤ 1048576) := fun i hi => by have := hd2 i hi; omega
                have HT2 : Hid (∀ i k, i < n → k < deg' i → tg' i k < n) := ht2
                have HE2 : Hid (∀ i x, i < n → (Edge deg' tg' i x ↔ (x < n ∧ Edge deg tg x i))) := he2
                clear hV hg2 hb2 hd2 ht2 he2 HR1
                go_wp2_with fail
                refine H8a.out.mono ?_
                rintro e w3 ⟨ga, rfl, hoa, hb3⟩
                have H8b : Hid (Calls Try.prog 8 #[.slice (some ⟨B, 0, none⟩) n n] w3 (SccPost w3 n deg' tg')) := zz_all w3 _ n deg' tg' (HG2.out.below hb3) hn HT2.out HD2.out
                have HOA : Hid (SccOut wr.heap.size n deg tg ga w3) := hoa
                have HB3 : Hid (Below wr.heap.size wr w3) := hb3
                clear hoa hb3 H8a
                go_wp2_with fail
                refine H8b.out.mono ?_
                rintro e w4 ⟨gb, rfl, hob, hb4⟩
                obtain ⟨ca, grpa, hGa, hQa⟩ := HOA.out.groups
                obtain ⟨cb, grpb, hGb, hQb⟩ := hob.groups
                have HQa : Hid (Groups n deg tg ca grpa) := hQa
                have HQb : Hid (Groups n deg' tg' cb grpb) := hQb
                have HGa4 : Hid (Grps w4 (wr.heap.size + 8) ga grpa (fun _ => False)) := hGa.below hb4
                have HGb4 : Hid (Grps w4 (w3.heap.size + 8) gb grpb (fun _ => False)) := hGb
                have HB4 : Hid (Below w3.heap.size w3 w4) := hb4
                have hsame : ∀ u v, u < n → v < n → (ca u = ca v ↔ cb u = cb v) := fun u v hu hv => same_class hQa hQb HT.out HT2.out
                  (fun i x hi he => (HE2.out x i (by obtain ⟨k, hk, e⟩ := id he; exact e ▸ HT.out i k hi hk)).2 ⟨hi, he⟩) (fun i x hi he => ((HE2.out i x hi).1 he).2) hu hv
                have HSM : Hid (∀ u v, u < n → v < n → (ca u = ca v ↔ cb u = cb v)) := hsame
                have hlen : grpa.length = grpb.length := Nat.le_antisymm (count_le hQa.part hQb.part (fun u v hu hv h => (hsame u v hu hv).2 h)) (count_le hQb.part hQa.part (fun u v hu hv h => (hsame u v hu hv).1 h))
                obtain ⟨aoa, capa, ea⟩ := grps_len hGa
                obtain ⟨aob, capb, eb⟩ := grps_len hGb
                have H9a : Hid (Calls Try.prog 9 #[ga, .int .i64 n] w4 (CompOut w4 n ca)) := group9 w4 ga _ n ca grpa HGa4.out hQa.part hn (fun j hj => Nat.le_trans (hQa.part.small.2 j hj) hn) (Nat.le_trans hQa.part.small.1 hn)
                have H9b : Hid (∀ w5, Below w4.heap.size w4 w5 → Calls Try.prog 9 #[gb, .int .i64 n] w5 (CompOut w5 n cb)) := fun w5 h5 => group9 w5 gb _ n cb grpb (HGb4.out.below h5) hQb.part hn (fun j hj => Nat.le_trans (hQb.part.small.2 j hj) hn) (Nat.le_trans hQb.part.small.1 hn)
                obtain ⟨GL, hGL⟩ : ∃ GL, GL = grpb.length := ⟨_, rfl⟩
                rw [hlen, ← hGL] at ea
                rw [← hGL] at eb
                subst ea eb
                clear hob hb4 HOA hGa hGb hQa hQb hsame hlen hGL H8b HG2
                go_wp2_with fail
                refine H9a.out.mono ?_
                rintro e w5 ⟨rfl, hca⟩
                have H9c : Hid (Calls Try.prog 9 #[.slice aob GL capb, .int .i64 n] w5 (CompOut w5 n cb)) := H9b.out w5 hca.1
                have HCA : Hid (CompAt w4 w4.heap.size n ca w5) := hca
                clear hca H9a H9b
                go_wp2_with fail
                refine H9c.out.mono ?_
                rintro e w6 ⟨rfl, hcb⟩
                have HCB : Hid (CompAt w5 w5.heap.size n cb w6) := hcb
                clear hcb H9c
                go_wp2
                go_loopw [16] (fun i wr => ∃ k : Nat, k ≤ n ∧ i = .int .i64 k ∧ Below w6.heap.size w6 wr) (fun i _ => n - (intOf i).toNat)
                case atStart => exact ⟨0, Nat.zero_le _, rfl, Below.refl _ _⟩
                case round =>
                  rename World => wz
                  obtain ⟨k, hk, rfl, hbz⟩ := hrel
                  by_cases hkl : k < n
                  · have hG6 := (HGa4.out.below HCA.out.1).below HCB.out.1
                    obtain ⟨g, cp, j, r, L, rc, h, hva, hcj, hjl, c1, hL, c2, hhn, hch⟩ := reads_of_group hG6 HQa.out.part hkl
                    simp only [Value.slice.injEq] at hva
                    obtain ⟨hva1, hva2, hva3⟩ := hva
                    subst hva1
                    have hjl' : j < GL := by omega
                    have e1 : wz.cell? ⟨w5.heap.size, k, none⟩ = some (.int .i64 (cb k)) := (HCB.out.below hbz).cell hkl
                    have e2 : wz.cell? ⟨w4.heap.size, k, none⟩ = some (.int .i64 (j : Nat)) := by
                      have := (((HCA.out.2.of_block (HCB.out.1.block _ HCA.out.2.lt))).of_block (hbz.block _ (by have h1 := HCA.out.2.lt; have h2 := HCB.out.1.size; omega))).cell hkl
                      rw [hcj] at this
                      exact this
                    have e3 : wz.cell? ⟨g, j, none⟩ = some (.slice (some ⟨r, 0, none⟩) L rc) := by rw [hbz.cell (World.block_lt_of_cell? w6 _ c1)]; exact c1
                    have e4 : wz.cell? ⟨r, 0, none⟩ = some (.int .i64 (h : Nat)) := by rw [hbz.cell (World.block_lt_of_cell? w6 _ c2)]; exact c2
                    have e5 : wz.cell? ⟨w5.heap.size, h, none⟩ = some (.int .i64 (cb k)) := by rw [← (HSM.out h k hhn hkl).1 hch]; exact (HCB.out.below hbz).cell hhn
                    have HBZ : Hid (∀ m, Below w6.heap.size w6 (wz.drewN m)) := fun m => below_drewN hbz m
                    clear hG6 hcj hjl c1 c2 hch hva2 hva3 hbz
                    go_upto_region 36 with fail
                    go_quiet (fail)
                    go_wp2
                    go_roundw
                    case rel => exact ⟨k + 1, by omega, by go_num, HBZ.out _⟩
                    case measure => simp [intOf]; omega
                  · have HBZ : Hid (Below w6.heap.size w6 wz) := hbz
                    clear hbz
                    go_wp2
                    go_ret
                    exact ⟨rfl, below_up HB1.out (below_up HB2.out (below_up HB3.out (below_up HB4.out (below_up HCA.out.1 (below_up HCB.out.1 HBZ.out)))))⟩
    · go_wp2
      go_ret
      exact ⟨rfl, Below.refl _ _⟩
end Go.Proofs.Qxb6604011a.Scc
