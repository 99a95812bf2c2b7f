import Derived.Test.Qxb6604011aPop
import Derived.Lib.MinMax
namespace Go.Proofs.Qxb6604011a.Scc
open Go.RowKit Go.Deep

set_option maxHeartbeats 2000000 in
set_option maxRecDepth 100000 in
theorem scc_any (w : World) (v : Value) (n : Nat) (deg : Nat → Nat) (tg : Nat → Nat → Nat) (hg : GraphAt w v n deg tg) (hn0 : 0 < n) (hn : n ≤ 65536) (ht : ∀ i k, i < n → k < deg i → tg i k < n) (hdeg : ∀ i, i < n → deg i ≤ 1048576) :
    Calls Try.prog 14 #[v] w fun e w' => ∃ gv, e = .returned gv ∧ SccOut w.heap.size n deg tg gv w' ∧ Below w.heap.size w w' := by
  obtain ⟨ao, cap, rfl, _, hg⟩ := hg
  obtain ⟨b, off, rfl, hrow⟩ := hg hn0
  have hmk := run_make_row' (P := Try.prog) 24 3 (.int .i64 0) 8 Try.underlying24 info3 rfl .i64 .i64 n (by omega) (by omega)
  have hmb := run_make_row' (P := Try.prog) 30 4 (.bool false) 1 Try.underlying30 info4 rfl .i64 .i64 n (by omega) (by omega)
  have hbw : b < w.heap.size := by
    obtain ⟨ro, rc, hc, _⟩ := hrow 0 hn0
    exact World.block_lt_of_cell? w ⟨b, off + 0, none⟩ hc
  have HR : Hid (∀ i, i < n → ∃ ro rc, w.cell? ⟨b, off + i, none⟩ = some (.slice ro (deg i) rc) ∧ (ro = none → rc = 0 ∧ deg i = 0) ∧
      (0 < deg i → ∃ rb rf, ro = some ⟨rb, rf, none⟩ ∧ ∀ k, k < deg i → w.cell? ⟨rb, rf + k, none⟩ = some (.int .i64 (tg i k : Nat)))) := hrow
  have HT : Hid (∀ i k, i < n → k < deg i → tg i k < n) := ht
  have HDg : Hid (∀ i, i < n → deg i ≤ 1048576) := hdeg
  clear hg hrow ht hdeg
  obtain ⟨B, hBw⟩ : ∃ B, w.heap.size = B := ⟨_, rfl⟩
  have HBw : Hid (w.heap.size = B) := hBw
  rw [hBw] at hbw
  rw [hBw]
  go_enter Try.func14, Try.ntmps14
  go_wp2
  rw [show B + 1 + 1 + 1 = B + 3 from rfl, show B + 1 + 1 = B + 2 from rfl]
  go_loopw [27] (fun i wr => ∃ k : Nat, k ≤ n ∧ i = .int .i64 k ∧ Fill w B n k wr) (fun i _ => n - (intOf i).toNat)
  case atStart =>
    refine ⟨0, Nat.zero_le _, rfl, ?_⟩
    exact fill_start HBw.out
  case round =>
    obtain ⟨k, hk, rfl, hF⟩ := hrel
    have q1 : wr.cell? ⟨B + 1, 0, none⟩ = some (.slice (some ⟨B, 0, none⟩) n n) := hF.2.2.2.1.cell (by omega)
    by_cases hlt : k < n
    · have q2 := hF.2.2.1.cell hlt
      have q3 := hF.2.2.1.frozen k
      have HF : Hid (Fill w B n (k + 1) (wr.setCell ⟨B, k, none⟩ (.int .i64 (-1)))) := hF.step
      clear hF
      go_wp2
      go_roundw
      case rel => exact ⟨k + 1, by omega, by go_num, HF.out⟩
      case measure => simp [intOf]; omega
    · have hkn : n = k := by omega
      subst hkn
      have hS := hF.2.1
      have HN0 : Hid (Now w B n deg tg ((((wr.alloc (.cells (madeCells #[.bool false] n) 4)).alloc (.cells #[.slice (some ⟨B + 4, 0, none⟩) n n] 30)).alloc (.cells #[.slice none 0 0] 24)).alloc (.cells #[.int .i64 0] 3)) (.slice none 0 0) (fun _ => -1) (fun _ => 0) (fun _ => false) [] [] (.slice none 0 0) 0 (fun _ => -1) [] (fun _ => 0) []) := now_start HT.out (mem_start hF)
      clear hF hmk q1
      go_wp2
      rw [show B + 4 + 1 + 1 + 1 = B + 7 from rfl, show B + 4 + 1 + 1 = B + 6 from rfl, show B + 4 + 1 = B + 5 from rfl]
      generalize ((((wr.alloc (.cells (madeCells #[.bool false] n) 4)).alloc (.cells #[.slice (some ⟨B + 4, 0, none⟩) n n] 30)).alloc (.cells #[.slice none 0 0] 24)).alloc (.cells #[.int .i64 0] 3)) = W at HN0 ⊢
      clear hS hmb hBw
      go_loopw [8, 40] (fun gv i wr => ∃ root : Nat, root ≤ n ∧ i = .int .i64 root ∧ Outer w B n deg tg root gv wr) (fun _ i _ => n - (intOf i).toNat)
      case atStart => exact ⟨0, Nat.zero_le _, rfl, _, _, _, _, _, _, _, _, _, HN0.out, fun v hv => absurd hv (by omega)⟩
      case round =>
        obtain ⟨root, hroot, rfl, hO⟩ := hrel
        clear HN0
        by_cases hlt2 : root < n
        · obtain ⟨ord, low, on, sv, nxt, c, grp, pe, vl, hN, hvis⟩ := hO
          have q1 : wr.cell? ⟨B + 1, 0, none⟩ = some (.slice (some ⟨B, 0, none⟩) n n) := hN.mem.v_ord.cell (by omega)
          have q2 := hN.mem.a_ord.cell hlt2
          have HN : Hid (Now w B n deg tg wr u8 ord low on [] [] sv nxt c grp pe vl) := hN
          have HV : Hid (∀ v, v < root → 0 ≤ ord v) := hvis
          clear hN hvis
          by_cases hu : ord root < 0
          · have hu1 : (ord root != -1) = false := by have := (HN.out.inv.unv root hlt2 hu).1; simp [this]
            have hnx := HN.out.nxt_le
            have h15 : Hid (Calls Try.prog 15 #[.int .i64 root, .pointer (some ⟨B + 7, 0, none⟩), .pointer (some ⟨B + 1, 0, none⟩), .pointer (some ⟨B + 3, 0, none⟩), .pointer (some ⟨B + 6, 0, none⟩), .pointer (some ⟨B + 5, 0, none⟩)] wr (Visited w B n root ord low on [] sv nxt wr)) :=
              visit_any w wr B n root ord low on [] sv nxt HN.out.mem hlt2 (by simp) (by omega)
            go_wp2_with fail
            refine h15.out.mono ?_
            rintro e w1 ⟨rfl, sv', hM, ho, hs⟩
            have HI : Hid (∃ G, Inner w B n deg tg root G u8 (.slice (some ⟨w1.heap.size, 0, none⟩) 1 1) (w1.alloc (.cells #[.int .i64 (root : Nat), .int .i64 0] 35))) := inner_start HN.out HV.out hlt2 hu hM ho hs
            clear hM ho hs q1 q2 hu1
            go_wp2
            obtain ⟨G0, hG0⟩ := HI.out
            go_loopg [8, 12] G0 (fun G gv wv wr => Inner w B n deg tg root G gv wv wr)
            case atStart => exact hG0
            case round =>
              obtain ⟨ord, low, on, stk, wn, sv, nxt, c, grp, pe, vl, hN, hW, hvis, hGk⟩ := hrel
              have HGk : Hid (gk = um deg ord n + wm deg pe wn) := hGk
              clear hGk HI hG0
              rcases wn with _ | ⟨v, rest⟩
              · obtain ⟨g, cap, hwv, _⟩ := hW
                have hwv' : u12 = .slice (some ⟨g, 0, none⟩) 0 cap := hwv
                clear hwv
                subst hwv'
                have HO : Hid (Outer w B n deg tg (root + 1) u8 wr) := Inner.leave hN hvis
                clear hN hvis HGk
                go_wp2
                go_roundw
                case rel => exact ⟨root + 1, by omega, by go_num, HO.out⟩
                case measure => simp [intOf]; omega
              · obtain ⟨g, cap, hwv, _⟩ := id hW
                obtain ⟨m, hm⟩ : ∃ m, m = rest.length := ⟨_, rfl⟩
                have hwv' : u12 = .slice (some ⟨g, 0, none⟩) (m + 1) cap := by rw [hm]; exact hwv
                clear hwv
                subst hwv'
                have Hm : Hid (m = rest.length) := hm
                have HW : Hid (WalkIs wr (B + 8) (.slice (some ⟨g, 0, none⟩) (m + 1) cap) (v :: rest) pe) := hW
                obtain ⟨t1, t2, t3, hglo, hcm, hmc⟩ := WalkIs.top (by rw [← hm]; exact hW)
                rw [← hm] at t1 t2 hmc
                clear hm hW
                have hmn : m + 1 ≤ n := by rw [Hm.out]; exact hN.wn_le
                obtain ⟨hvn, hv0, hpd, hvs, hvr, hlv, hvx⟩ := hN.top
                have hbel := hN.mem.below
                obtain ⟨ro, rc, hc, hnone, hrows⟩ := HR.out v hvn
                have r1 : wr.cell? ⟨b, off + v, none⟩ = some (.slice ro (deg v) rc) := by rw [hbel.cell hbw]; exact hc
                have hd := HDg.out v hvn
                have HNv : Hid (Now w B n deg tg wr u8 ord low on stk (v :: rest) sv nxt c grp pe vl) := hN
                have HVv : Hid (∀ v, v < root + 1 → 0 ≤ ord v) := hvis
                have Hvs : Hid (v ∈ stk ∧ v ∉ rest ∧ low v ≤ ord v ∧ ord v < nxt ∧ 0 ≤ ord v) := ⟨hvs, hvr, hlv, hvx, hv0⟩
                have Hnone : Hid (ro = none → rc = 0 ∧ deg v = 0) := hnone
                have Hrows : Hid (0 < deg v → ∃ rb rf, ro = some ⟨rb, rf, none⟩ ∧ ∀ k, k < deg v → w.cell? ⟨rb, rf + k, none⟩ = some (.int .i64 (tg v k : Nat))) := hrows
                have Hbel : Hid (Below B w wr) := hbel
                clear hN hvis hc hvs hvr hlv hvx hv0 hnone hrows hbel
                by_cases hlt : pe v < deg v
                · obtain ⟨rb, rf, hro, hcells⟩ := Hrows.out (by omega)
                  subst hro
                  have hk := hcells _ hlt
                  have hrb : rb < B := by rw [← HBw.out]; exact World.block_lt_of_cell? w ⟨rb, rf + pe v, none⟩ hk
                  have r2 : wr.cell? ⟨rb, rf + pe v, none⟩ = some (.int .i64 (tg v (pe v) : Nat)) := by rw [Hbel.out.cell hrb]; exact hk
                  have hyn : tg v (pe v) < n := HT.out v _ hvn hlt
                  have HX : Hid (∀ k, WalkIs ((wr.drewN k).setCell ⟨g, m * 2 + 1, none⟩ (.int .i64 ((pe v : Int) + 1))) (B + 8) (.slice (some ⟨g, 0, none⟩) (m + 1) cap) (v :: rest) (upd pe v (pe v + 1)) ∧
                      Now w B n deg tg ((wr.drewN k).setCell ⟨g, m * 2 + 1, none⟩ (.int .i64 ((pe v : Int) + 1))) u8 ord low on stk (v :: rest) sv nxt c grp pe vl) := by
                    intro k
                    have := HW.out
                    refine ⟨?_, (HNv.out.drewN k).setWalk (this.drewN k) _ _⟩
                    rw [Hm.out] at this ⊢
                    exact (this.drewN k).edge Hvs.out.2.1 (pe v + 1)
                  clear hcells hk Hrows Hnone
                  obtain ⟨p, hp⟩ : ∃ p, p = pe v := ⟨_, rfl⟩
                  obtain ⟨y, hy⟩ : ∃ y, y = tg v p := ⟨_, rfl⟩
                  rw [← hp] at t2 r2 hlt HX hpd hyn
                  rw [← hy] at r2 hyn
                  have Hp : Hid (p = pe v) := hp
                  have Hy : Hid (y = tg v p) := hy
                  clear hp hy
                  go_upto_region 22 with fail
                  go_quiet (fail)
                  go_upto_region 23 with fail
                  go_quiet (fail)
                  go_upto_region 25 with fail
                  refine at_drewN ?_ _
                  intro nk
                  have hX := HX.out nk
                  generalize (wr.drewN nk).setCell ⟨g, m * 2 + 1, none⟩ (.int .i64 ((p : Int) + 1)) = W1 at hX ⊢
                  clear t1 t2 t3 r1 r2 HX
                  obtain ⟨hW1, hN1⟩ := hX
                  have q1 : W1.cell? ⟨B + 1, 0, none⟩ = some (.slice (some ⟨B, 0, none⟩) n n) := hN1.mem.v_ord.cell (by omega)
                  have q2 := hN1.mem.a_ord.cell hyn
                  have q3 : W1.cell? ⟨B + 5, 0, none⟩ = some (.slice (some ⟨B + 4, 0, none⟩) n n) := hN1.mem.v_on.cell (by omega)
                  have q4 := hN1.mem.a_on.cell hyn
                  have q5 : W1.cell? ⟨B + 3, 0, none⟩ = some (.slice (some ⟨B + 2, 0, none⟩) n n) := hN1.mem.v_low.cell (by omega)
                  have q6 := hN1.mem.a_low.cell hvn
                  have q7 := hN1.mem.a_low.frozen v
                  have HW1 : Hid (WalkIs W1 (B + 8) (.slice (some ⟨g, 0, none⟩) (m + 1) cap) (v :: rest) (upd pe v (p + 1))) := hW1
                  have HN1 : Hid (Now w B n deg tg W1 u8 ord low on stk (v :: rest) sv nxt c grp pe vl) := hN1
                  clear hW1 hN1
                  by_cases hu : ord y < 0
                  · have hu1 : (ord y == -1) = true := by have := (HN1.out.inv.unv y hyn hu).1; simp [this]
                    have hnx := HN1.out.nxt_le
                    have h15 : Hid (Calls Try.prog 15 #[.int .i64 y, .pointer (some ⟨B + 7, 0, none⟩), .pointer (some ⟨B + 1, 0, none⟩), .pointer (some ⟨B + 3, 0, none⟩), .pointer (some ⟨B + 6, 0, none⟩), .pointer (some ⟨B + 5, 0, none⟩)] W1 (Visited w B n y ord low on stk sv nxt W1)) :=
                      visit_any w W1 B n y ord low on stk sv nxt HN1.out.mem hyn (by have := HN1.out.stk_le; omega) (by omega)
                    clear q3 q4 q5 q6 q7
                    go_wp2_with fail
                    refine h15.out.mono ?_
                    rintro e w1 ⟨rfl, sv', hM, ho, hs⟩
                    obtain ⟨i0, hi, hz0, hz1, hz2⟩ := info_parts info35
                    have HW2 : Hid (WalkIs w1 (B + 8) (.slice (some ⟨g, 0, none⟩) (m + 1) cap) (v :: rest) (upd pe v (p + 1))) := walk_visit hs HN1.out HW1.out
                    have HAr : Hid (Arr w1 g 35 (cap * 2) ((m + 1) * 2) (wf (v :: rest) (upd pe v (p + 1)))) := by
                      obtain ⟨g', cap', e, _, _, hA⟩ := HW2.out
                      simp only [Value.slice.injEq, Option.some.injEq, Addr.mk.injEq, and_true] at e
                      obtain ⟨rfl, hle, rfl⟩ := e
                      rw [hle]; exact hA
                    have HM : Hid (Mem w B n w1 (upd ord y nxt) (upd low y nxt) (upd on y true) (y :: stk) sv' (nxt + 1)) := hM
                    have Hs : Hid (Side B sv W1 w1 ∧ (sv'.ownBlock = sv.ownBlock ∨ ∃ k, sv'.ownBlock = some k ∧ W1.heap.size < k)) := ⟨hs, ho⟩
                    clear hM ho hs q1 q2 hu1
                    go_wp2_with (at_builtin; refine wpList_append_arr _ rfl (.tmp 101) (.tmp 104) 36 rfl 35 i0 (.agg #[.int .i64 0, .int .i64 0]) 2 16 Try.underlying36 hi hz0 hz1 hz2 rfl g (m + 1) cap (wf (v :: rest) (upd pe v (p + 1))) rfl ?ca ?cb ⟨w1.heap.size, 0, none⟩ 1 1 [.int .i64 y, .int .i64 0] rfl rfl ?cc ?cd ?ce ?cf ?_)
                    case ca => exact HAr.out.alloc _
                    case cb => exact hcm
                    case cc =>
                      intro j u hj
                      match j, hj with
                      | 0, hj => simp at hj; subst hj; simp [Addr.add]
                      | 1, hj => simp at hj; subst hj; simp [Addr.add]
                    case cd =>
                      intro u hu
                      simp at hu
                      rcases hu with rfl | rfl <;> rfl
                    case ce => unfold maxLen; omega
                    case cf => omega
                    intro v' w3 hap
                    have HI : Hid (∃ G, G < um deg ord n + wm deg pe (v :: rest) ∧ Inner w B n deg tg root G u8 v' w3) := by
                      rw [Hm.out] at hap
                      have e1 := Hp.out
                      subst e1
                      exact turn_push HN1.out HW2.out HVv.out hlt Hy.out.symm hu HM.out Hs.out.2 Hs.out.1 hap
                    clear hap
                    go_wp2
                    obtain ⟨G', hG', hI'⟩ := HI.out
                    go_roundg G'
                    case measure => rw [HGk.out]; exact hG'
                    case rel => exact hI'
                  · have hu1 : (ord y == -1) = false := by simp; omega
                    by_cases hon : on y = true
                    · rw [hon] at q4
                      have HI : Hid (∃ G, G < um deg ord n + wm deg pe (v :: rest) ∧ Inner w B n deg tg root G u8 (.slice (some ⟨g, 0, none⟩) (m + 1) cap) ((W1.setCell ⟨B + 2, v, none⟩ (.int .i64 (min (low v) (ord y)))).drew)) := by
                        have e1 := Hp.out
                        subst e1
                        rw [Hy.out]
                        exact turn_lower HN1.out HW1.out HVv.out hlt (by rw [← Hy.out]; exact (HN1.out.on_iff y).1 hon)
                      go_upto_region 29 with fail
                      go_region
                      go_wp2
                      obtain ⟨G', hG', hI'⟩ := HI.out
                      go_roundg G'
                      case measure => rw [HGk.out]; exact hG'
                      case rel => exact hI'
                    · have hon1 : on y = false := by simpa using hon
                      rw [hon1] at q4
                      have HI : Hid (∃ G, G < um deg ord n + wm deg pe (v :: rest) ∧ Inner w B n deg tg root G u8 (.slice (some ⟨g, 0, none⟩) (m + 1) cap) W1) := by
                        have e1 := Hp.out
                        subst e1
                        refine turn_stay HN1.out HW1.out HVv.out hlt (by rw [← Hy.out]; omega) (fun hs => absurd ((HN1.out.on_iff _).2 hs) (by rw [← Hy.out]; exact hon))
                      go_wp2
                      obtain ⟨G', hG', hI'⟩ := HI.out
                      go_roundg G'
                      case measure => rw [HGk.out]; exact hG'
                      case rel => exact hI'
                · have hpe : pe v = deg v := by omega
                  have HX : Hid (∀ k, WalkIs (wr.drewN k) (B + 8) (.slice (some ⟨g, 0, none⟩) m cap) rest pe ∧ Now w B n deg tg (wr.drewN k) u8 ord low on stk (v :: rest) sv nxt c grp pe vl) := fun k => ⟨by
                    have := HW.out
                    rw [Hm.out] at this ⊢
                    exact (this.drewN k).pop, HNv.out.drewN k⟩
                  rw [hpe] at t2
                  have Hpe : Hid (pe v = deg v) := hpe
                  clear Hrows Hnone hlt hpd hpe
                  go_upto_region 22 with fail
                  go_quiet (fail)
                  go_upto_region 30 with fail
                  refine at_drewN' ?_ _
                  intro nk
                  have hX := HX.out nk
                  generalize wr.drewN nk = W1 at hX ⊢
                  clear t1 t2 t3 r1 HX
                  obtain ⟨hW1, hN1⟩ := hX
                  rcases rest with _ | ⟨u, rest⟩
                  · have hm0 : m = 0 := Hm.out
                    subst hm0
                    have hroot : low v = ord v := hN1.inv.root
                    have q1 : W1.cell? ⟨B + 1, 0, none⟩ = some (.slice (some ⟨B, 0, none⟩) n n) := hN1.mem.v_ord.cell (by omega)
                    have q2 := hN1.mem.a_ord.cell hvn
                    have q5 : W1.cell? ⟨B + 3, 0, none⟩ = some (.slice (some ⟨B + 2, 0, none⟩) n n) := hN1.mem.v_low.cell (by omega)
                    have q6 := hN1.mem.a_low.cell hvn
                    rw [hroot] at q6
                    have HX : Hid (∀ k, WalkIs (W1.drewN k) (B + 8) (.slice (some ⟨g, 0, none⟩) 0 cap) [] pe ∧ Now w B n deg tg (W1.drewN k) u8 ord low on stk (v :: []) sv nxt c grp pe vl) := fun k => ⟨hW1.drewN k, hN1.drewN k⟩
                    have Hroot : Hid (low v = ord v) := hroot
                    clear hroot hW1 hN1
                    go_upto_region 34 with fail
                    go_quiet (fail)
                    go_upto_region 35 with fail
                    refine at_drewN' ?_ _
                    intro nk
                    have hX := HX.out nk
                    generalize W1.drewN nk = W3 at hX ⊢
                    clear q1 q2 q5 q6 HX
                    have HW3 : Hid (WalkIs W3 (B + 8) (.slice (some ⟨g, 0, none⟩) 0 cap) [] pe) := hX.1
                    have HN3 : Hid (Now w B n deg tg W3 u8 ord low on stk (v :: []) sv nxt c grp pe vl) := hX.2
                    clear hX
                    obtain ⟨seg, bot, hst⟩ := List.append_of_mem Hvs.out.1
                    have HN3' : Hid (Now w B n deg tg W3 u8 ord low on (seg ++ v :: bot) (v :: []) sv nxt c grp pe vl) := by rw [← hst]; exact HN3.out
                    have HP0 : Hid (PopS w B n ord low bot nxt grp u8 (.slice (some ⟨g, 0, none⟩) 0 cap) [] pe on sv [] (seg ++ [v]) (.slice none 0 0) W3) := pop_start HN3'.out HW3.out
                    have Hsl : Hid ((seg ++ v :: bot).length ≤ n) := HN3'.out.stk_le
                    clear hst
                    go_wp2
                    go_loopg [17] (seg.length + 1) (fun G g1 wr => ∃ (done todo : List Nat) (on' : Nat → Bool) (sv' : Value), PopS w B n ord low bot nxt grp u8 (.slice (some ⟨g, 0, none⟩) 0 cap) [] pe on' sv' done todo g1 wr ∧ seg ++ [v] = done ++ todo ∧ todo ≠ [] ∧ G = todo.length)
                    case atStart => exact ⟨[], seg ++ [v], on, sv, HP0.out, rfl, by simp, by simp⟩
                    case round =>
                      obtain ⟨done, todo, on', sv', hP, hsplit, hne, hG⟩ := hrel
                      clear HP0
                      rcases todo with _ | ⟨x, todo⟩
                      · exact absurd rfl hne
                      · clear hne
                        have Hsplit : Hid (seg ++ [v] = done ++ x :: todo) := hsplit
                        have HG : Hid (gk = (x :: todo).length) := hG
                        have hxs : x ∈ seg ++ v :: bot := by
                          have h1 : x ∈ seg ++ [v] := by rw [hsplit]; simp
                          rcases List.mem_append.1 h1 with h | h
                          · exact List.mem_append_left _ h
                          · exact List.mem_append_right _ (by simp at h; rw [h]; exact List.mem_cons_self)
                        have hxn : x < n := (HN3'.out.inv.stk_in x hxs).1
                        have hlen1 : done.length + (todo ++ bot).length ≤ 65536 := by
                          have h1 := Hsl.out
                          have h2 := congrArg List.length hsplit
                          simp at h1 h2 ⊢
                          omega
                        obtain ⟨sg, sc, hsv, hsg, hscm, hLs, e1, hin⟩ := hP.top
                        have q1 := hP.mem.v_stk.cell (show 0 < 1 by omega)
                        have q2 := hP.mem.v_stk.frozen 0
                        have q3 : wr.cell? ⟨B + 5, 0, none⟩ = some (.slice (some ⟨B + 4, 0, none⟩) n n) := hP.mem.v_on.cell (by omega)
                        have q4 := hP.mem.a_on.cell hxn
                        have q5 := hP.mem.a_on.frozen x
                        simp only [hsv] at q1
                        have HPS : Hid (∀ o g1' w5, Appended (((wr.setCell ⟨B + 6, 0, none⟩ (.slice (some ⟨sg, 0, none⟩) (todo ++ bot).length sc)).setCell ⟨B + 4, x, none⟩ (.bool false)).alloc o) u17.ownBlock 3 1 done.length 1 (intf done) [.int .i64 (x : Nat)] g1' w5 →
                            PopS w B n ord low bot nxt grp u8 (.slice (some ⟨g, 0, none⟩) 0 cap) [] pe (upd on' x false) (.slice (some ⟨sg, 0, none⟩) (todo ++ bot).length sc) (done ++ [x]) todo g1' w5 ∧ ∃ xr xc, g1' = .slice (some ⟨xr, 0, none⟩) (done.length + 1) xc) := fun o g1' w5 ha => pop_step hP hsv hin ha
                        have HIA : Hid (∀ o, (u17 = .slice none 0 0 ∧ done.length = 0) ∨ ∃ g cap, u17 = .slice (some ⟨g, 0, none⟩) done.length cap ∧ Arr (((wr.setCell ⟨B + 6, 0, none⟩ (.slice (some ⟨sg, 0, none⟩) (todo ++ bot).length sc)).setCell ⟨B + 4, x, none⟩ (.bool false)).alloc o) g 3 (cap * 1) (done.length * 1) (intf done) ∧ cap ≤ maxLen) := by
                          intro o
                          refine Ints.any (B := B) ((hP.ints.block (fun k hk => ?_)))
                          have h1 := hP.ints.lt k hk
                          rw [blk_alloc_lt _ _ _ (by rw [nblk_setCell, nblk_setCell]; exact h1.2), blk_setCell_other _ _ _ _ (by show k ≠ B + 4; omega), blk_setCell_other _ _ _ _ (by show k ≠ B + 6; omega)]
                        obtain ⟨S, hS⟩ : ∃ S, S = (todo ++ bot).length := ⟨_, rfl⟩
                        obtain ⟨D, hD⟩ : ∃ D, D = done.length := ⟨_, rfl⟩
                        rw [← hS] at q1 hLs e1 HPS HIA hlen1
                        rw [← hD] at HPS HIA hlen1
                        have HD : Hid (D = done.length) := hD
                        clear hsv hin hP hS hD hsplit hG hxs
                        obtain ⟨i0, hi, hz0, hz1, hz2⟩ := info_parts info3
                        go_upto_region 39 with fail
                        generalize (wr.setCell ⟨B + 6, 0, none⟩ (.slice (some ⟨sg, 0, none⟩) S sc)).setCell ⟨B + 4, x, none⟩ (.bool false) = W4 at HPS HIA ⊢
                        clear q1 q2 q3 q4 q5 e1
                        go_wp2_with (at_builtin; refine wpList_append_any _ rfl (.tmp 172) (.tmp 174) 24 rfl 3 i0 (.int .i64 0) 1 8 Try.underlying24 hi hz0 hz1 hz2 rfl u17 D (intf done) rfl ?cap ⟨W4.heap.size, 0, none⟩ 1 1 [.int .i64 x] rfl rfl ?cbp ?ccp ?cdp ?cep ?cfp ?_)
                        case cap => exact HIA.out _
                        case cbp =>
                          intro j u hj
                          match j, hj with
                          | 0, hj => simp at hj; subst hj; simp [Addr.add]
                        case ccp =>
                          intro u hu
                          simp at hu
                          subst hu
                          rfl
                        case cdp => omega
                        case cep => unfold maxLen; omega
                        case cfp => omega
                        intro v' w5 hap
                        obtain ⟨hP5, xr, xc, hv'⟩ := HPS.out _ _ _ hap
                        subst hv'
                        clear hap HPS HIA hi hz0 hz1 hz2
                        rcases split_last Hsplit.out with ⟨htd, hxv, hsd⟩ | ⟨htd, hvt⟩
                        · subst htd hsd
                          have hvx := hxv.symm
                          clear hxv
                          subst hvx
                          obtain ⟨f, hany, hf⟩ := hP5.grps.any
                          have hgl := HN3'.out.grp_le
                          obtain ⟨i1, hi1, hy0, hy1, hy2⟩ := info_parts info24
                          have HE : Hid (∀ o gv' w6, Appended (w5.alloc o) u8.ownBlock 24 1 grp.length 1 f [.slice (some ⟨xr, 0, none⟩) (D + 1) xc] gv' w6 → ∃ G, G < um deg ord n + wm deg pe (v :: []) ∧ Inner w B n deg tg root G gv' (.slice (some ⟨g, 0, none⟩) 0 cap) w6) :=
                            fun o gv' w6 ha => pop_end HN3'.out Hpe.out Hroot.out HVv.out hP5 rfl hf ha
                          have HA2 : Hid (∀ o, (u8 = .slice none 0 0 ∧ grp.length = 0) ∨ ∃ g cap, u8 = .slice (some ⟨g, 0, none⟩) grp.length cap ∧ Arr (w5.alloc o) g 24 (cap * 1) (grp.length * 1) f ∧ cap ≤ maxLen) := fun o => hany.imp id (fun ⟨g, cap, h1, h2, h3⟩ => ⟨g, cap, h1, h2.alloc o, h3⟩)
                          obtain ⟨GL, hGL⟩ : ∃ GL, GL = grp.length := ⟨_, rfl⟩
                          rw [← hGL] at HE HA2 hgl
                          clear hP5 hany hf hGL
                          go_wp2_with (at_builtin; refine wpList_append_any _ rfl (.tmp 179) (.tmp 181) 22 rfl 24 i1 (.slice none 0 0) 1 24 Try.underlying22 hi1 hy0 hy1 hy2 rfl u8 GL f rfl ?dap ⟨w5.heap.size, 0, none⟩ 1 1 [.slice (some ⟨xr, 0, none⟩) (D + 1) xc] rfl rfl ?dbp ?dcp ?ddp ?dep ?dfp ?_)
                          case dap => simpa only [Nat.mul_one] using HA2.out _
                          case dcp => first | rfl | (intro u hu; simp at hu; subst hu; rfl)
                          case dep => unfold maxLen; omega
                          case dfp => omega
                          intro gv' w6 hap
                          obtain ⟨G', hG', hI'⟩ := HE.out _ _ _ hap
                          clear hap
                          have HI' : Hid (Inner w B n deg tg root G' gv' (.slice (some ⟨g, 0, none⟩) 0 cap) w6) := hI'
                          have HG' : Hid (G' < um deg ord n + wm deg pe (v :: [])) := hG'
                          clear hI' hG'
                          go_wp2
                          go_roundg G'
                          case measure => rw [HGk.out]; exact HG'.out
                          case rel => exact HI'.out
                        · have hxv : ((x : Int) == (v : Int)) = false := by
                            have h1 := hP5.nd
                            have h2 : x ≠ v := fun e => by
                              have h3 := sorted_nodup HN3'.out.inv.sorted
                              have h4 : (seg ++ [v]) ++ bot = seg ++ v :: bot := by simp
                              rw [← h4, Hsplit.out] at h3
                              have h5 := (List.nodup_append.1 h3).1
                              have h6 := (List.nodup_append.1 h5).2.1
                              rw [List.nodup_cons] at h6
                              exact h6.1 (e ▸ hvt)
                            simp; omega
                          have HP5 : Hid (PopS w B n ord low bot nxt grp u8 (.slice (some ⟨g, 0, none⟩) 0 cap) [] pe (upd on' x false) (.slice (some ⟨sg, 0, none⟩) S sc) (done ++ [x]) todo (.slice (some ⟨xr, 0, none⟩) (D + 1) xc) w5) := hP5
                          clear hP5
                          go_wp2
                          go_roundg todo.length
                          case measure => rw [HG.out]; simp
                          case rel => exact ⟨_, _, _, _, HP5.out, by rw [Hsplit.out]; simp, htd, rfl⟩

                  · obtain ⟨k, hk⟩ : ∃ k, k = rest.length := ⟨_, rfl⟩
                    have hm1 : m = k + 1 := by rw [hk]; exact Hm.out
                    subst hm1
                    have hus := hN1.inv.wsub u (List.mem_cons_of_mem _ List.mem_cons_self)
                    have hun : u < n := (hN1.inv.stk_in u hus.1).1
                    have hws := hN1.inv.wsorted
                    rw [List.pairwise_cons] at hws
                    have huo := hws.1 u List.mem_cons_self
                    have huv : v ≠ u := fun e => by rw [e] at huo; omega
                    obtain ⟨tu1, _, _, _, _, _⟩ := WalkIs.top (by rw [← hk]; exact hW1)
                    rw [← hk] at tu1
                    have q1 : W1.cell? ⟨B + 1, 0, none⟩ = some (.slice (some ⟨B, 0, none⟩) n n) := hN1.mem.v_ord.cell (by omega)
                    have q5 : W1.cell? ⟨B + 3, 0, none⟩ = some (.slice (some ⟨B + 2, 0, none⟩) n n) := hN1.mem.v_low.cell (by omega)
                    have q6 := hN1.mem.a_low.cell hvn
                    have q8 := hN1.mem.a_low.cell hun
                    have q9 := hN1.mem.a_low.frozen u
                    have HN2 : Hid (Now w B n deg tg ((W1.setCell ⟨B + 2, u, none⟩ (.int .i64 (min (low u) (low v)))).drew) u8 ord (upd low u (min (low u) (low v))) on stk (v :: u :: rest) sv nxt c grp pe vl) := by
                      obtain ⟨y, hy1, hy2, hy3⟩ := (hN1.inv.lows v Hvs.out.1).2
                      exact hN1.lower u y (List.mem_cons_of_mem _ List.mem_cons_self) hy1 ((hN1.inv.i4 u v (List.mem_cons_of_mem _ List.mem_cons_self) Hvs.out.1 (by omega)).trans hy3) _ hy2.symm
                    have HW2 : Hid (WalkIs ((W1.setCell ⟨B + 2, u, none⟩ (.int .i64 (min (low u) (low v)))).drew) (B + 8) (.slice (some ⟨g, 0, none⟩) (k + 1) cap) (u :: rest) pe) := hW1.block (fun j hj => by
                      obtain ⟨g', e, hl, _, _⟩ := hW1.own
                      rw [e] at hj
                      simp only [Option.some.injEq] at hj
                      subst hj
                      show (W1.setCell _ _).heap[g']? = _
                      exact blk_setCell_other _ _ _ _ (by show g' ≠ B + 2; omega))
                    have Hle : Hid (upd low u (min (low u) (low v)) u ≤ upd low u (min (low u) (low v)) v) := by
                      show _ ≤ _
                      rw [upd_same, upd_other _ _ huv]; omega
                    clear hW1 hN1 hus hws huo hk Hm huv
                    go_upto_region 33 with fail
                    go_region
                    go_upto_region 34 with fail
                    generalize (W1.setCell ⟨B + 2, u, none⟩ (.int .i64 (min (low u) (low v)))).drew = W2 at HN2 HW2 ⊢
                    generalize upd low u (min (low u) (low v)) = lo2 at HN2 Hle
                    clear tu1 q1 q5 q6 q8 q9
                    have q1 : W2.cell? ⟨B + 1, 0, none⟩ = some (.slice (some ⟨B, 0, none⟩) n n) := HN2.out.mem.v_ord.cell (by omega)
                    have q2 := HN2.out.mem.a_ord.cell hvn
                    have q5 : W2.cell? ⟨B + 3, 0, none⟩ = some (.slice (some ⟨B + 2, 0, none⟩) n n) := HN2.out.mem.v_low.cell (by omega)
                    have q6 := HN2.out.mem.a_low.cell hvn
                    by_cases hroot : lo2 v = ord v
                    · rw [hroot] at q6
                      have HX : Hid (∀ j, WalkIs (W2.drewN j) (B + 8) (.slice (some ⟨g, 0, none⟩) (k + 1) cap) (u :: rest) pe ∧ Now w B n deg tg (W2.drewN j) u8 ord lo2 on stk (v :: u :: rest) sv nxt c grp pe vl) := fun j => ⟨HW2.out.drewN j, HN2.out.drewN j⟩
                      have Hroot : Hid (lo2 v = ord v) := hroot
                      clear hroot HW2 HN2
                      go_quiet (fail)
                      go_upto_region 35 with fail
                      refine at_drewN' ?_ _
                      intro nk
                      have hX := HX.out nk
                      generalize W2.drewN nk = W3 at hX ⊢
                      clear q1 q2 q5 q6 HX
                      have HW3 : Hid (WalkIs W3 (B + 8) (.slice (some ⟨g, 0, none⟩) (k + 1) cap) (u :: rest) pe) := hX.1
                      have HN3 : Hid (Now w B n deg tg W3 u8 ord lo2 on stk (v :: u :: rest) sv nxt c grp pe vl) := hX.2
                      clear hX
                      obtain ⟨seg, bot, hst⟩ := List.append_of_mem Hvs.out.1
                      have HN3' : Hid (Now w B n deg tg W3 u8 ord lo2 on (seg ++ v :: bot) (v :: (u :: rest)) sv nxt c grp pe vl) := by rw [← hst]; exact HN3.out
                      have HP0 : Hid (PopS w B n ord lo2 bot nxt grp u8 (.slice (some ⟨g, 0, none⟩) (k + 1) cap) (u :: rest) pe on sv [] (seg ++ [v]) (.slice none 0 0) W3) := pop_start HN3'.out HW3.out
                      have Hsl : Hid ((seg ++ v :: bot).length ≤ n) := HN3'.out.stk_le
                      clear hst
                      go_wp2
                      go_loopg [17] (seg.length + 1) (fun G g1 wr => ∃ (done todo : List Nat) (on' : Nat → Bool) (sv' : Value), PopS w B n ord lo2 bot nxt grp u8 (.slice (some ⟨g, 0, none⟩) (k + 1) cap) (u :: rest) pe on' sv' done todo g1 wr ∧ seg ++ [v] = done ++ todo ∧ todo ≠ [] ∧ G = todo.length)
                      case atStart => exact ⟨[], seg ++ [v], on, sv, HP0.out, rfl, by simp, by simp⟩
                      case round =>
                        obtain ⟨done, todo, on', sv', hP, hsplit, hne, hG⟩ := hrel
                        clear HP0
                        rcases todo with _ | ⟨x, todo⟩
                        · exact absurd rfl hne
                        · clear hne
                          have Hsplit : Hid (seg ++ [v] = done ++ x :: todo) := hsplit
                          have HG : Hid (gk = (x :: todo).length) := hG
                          have hxs : x ∈ seg ++ v :: bot := by
                            have h1 : x ∈ seg ++ [v] := by rw [hsplit]; simp
                            rcases List.mem_append.1 h1 with h | h
                            · exact List.mem_append_left _ h
                            · exact List.mem_append_right _ (by simp at h; rw [h]; exact List.mem_cons_self)
                          have hxn : x < n := (HN3'.out.inv.stk_in x hxs).1
                          have hlen1 : done.length + (todo ++ bot).length ≤ 65536 := by
                            have h1 := Hsl.out
                            have h2 := congrArg List.length hsplit
                            simp at h1 h2 ⊢
                            omega
                          obtain ⟨sg, sc, hsv, hsg, hscm, hLs, e1, hin⟩ := hP.top
                          have q1 := hP.mem.v_stk.cell (show 0 < 1 by omega)
                          have q2 := hP.mem.v_stk.frozen 0
                          have q3 : wr.cell? ⟨B + 5, 0, none⟩ = some (.slice (some ⟨B + 4, 0, none⟩) n n) := hP.mem.v_on.cell (by omega)
                          have q4 := hP.mem.a_on.cell hxn
                          have q5 := hP.mem.a_on.frozen x
                          simp only [hsv] at q1
                          have HPS : Hid (∀ o g1' w5, Appended (((wr.setCell ⟨B + 6, 0, none⟩ (.slice (some ⟨sg, 0, none⟩) (todo ++ bot).length sc)).setCell ⟨B + 4, x, none⟩ (.bool false)).alloc o) u17.ownBlock 3 1 done.length 1 (intf done) [.int .i64 (x : Nat)] g1' w5 →
                              PopS w B n ord lo2 bot nxt grp u8 (.slice (some ⟨g, 0, none⟩) (k + 1) cap) (u :: rest) pe (upd on' x false) (.slice (some ⟨sg, 0, none⟩) (todo ++ bot).length sc) (done ++ [x]) todo g1' w5 ∧ ∃ xr xc, g1' = .slice (some ⟨xr, 0, none⟩) (done.length + 1) xc) := fun o g1' w5 ha => pop_step hP hsv hin ha
                          have HIA : Hid (∀ o, (u17 = .slice none 0 0 ∧ done.length = 0) ∨ ∃ g cap, u17 = .slice (some ⟨g, 0, none⟩) done.length cap ∧ Arr (((wr.setCell ⟨B + 6, 0, none⟩ (.slice (some ⟨sg, 0, none⟩) (todo ++ bot).length sc)).setCell ⟨B + 4, x, none⟩ (.bool false)).alloc o) g 3 (cap * 1) (done.length * 1) (intf done) ∧ cap ≤ maxLen) := by
                            intro o
                            refine Ints.any (B := B) ((hP.ints.block (fun k hk => ?_)))
                            have h1 := hP.ints.lt k hk
                            rw [blk_alloc_lt _ _ _ (by rw [nblk_setCell, nblk_setCell]; exact h1.2), blk_setCell_other _ _ _ _ (by show k ≠ B + 4; omega), blk_setCell_other _ _ _ _ (by show k ≠ B + 6; omega)]
                          obtain ⟨S, hS⟩ : ∃ S, S = (todo ++ bot).length := ⟨_, rfl⟩
                          obtain ⟨D, hD⟩ : ∃ D, D = done.length := ⟨_, rfl⟩
                          rw [← hS] at q1 hLs e1 HPS HIA hlen1
                          rw [← hD] at HPS HIA hlen1
                          have HD : Hid (D = done.length) := hD
                          clear hsv hin hP hS hD hsplit hG hxs
                          obtain ⟨i0, hi, hz0, hz1, hz2⟩ := info_parts info3
                          go_upto_region 39 with fail
                          generalize (wr.setCell ⟨B + 6, 0, none⟩ (.slice (some ⟨sg, 0, none⟩) S sc)).setCell ⟨B + 4, x, none⟩ (.bool false) = W4 at HPS HIA ⊢
                          clear q1 q2 q3 q4 q5 e1
                          go_wp2_with (at_builtin; refine wpList_append_any _ rfl (.tmp 172) (.tmp 174) 24 rfl 3 i0 (.int .i64 0) 1 8 Try.underlying24 hi hz0 hz1 hz2 rfl u17 D (intf done) rfl ?caq ⟨W4.heap.size, 0, none⟩ 1 1 [.int .i64 x] rfl rfl ?cbq ?ccq ?cdq ?ceq ?cfq ?_)
                          case caq => exact HIA.out _
                          case cbq =>
                            intro j u hj
                            match j, hj with
                            | 0, hj => simp at hj; subst hj; simp [Addr.add]
                          case ccq =>
                            intro u hu
                            simp at hu
                            subst hu
                            rfl
                          case cdq => omega
                          case ceq => unfold maxLen; omega
                          case cfq => omega
                          intro v' w5 hap
                          obtain ⟨hP5, xr, xc, hv'⟩ := HPS.out _ _ _ hap
                          subst hv'
                          clear hap HPS HIA hi hz0 hz1 hz2
                          rcases split_last Hsplit.out with ⟨htd, hxv, hsd⟩ | ⟨htd, hvt⟩
                          · subst htd hsd
                            have hvx := hxv.symm
                            clear hxv
                            subst hvx
                            obtain ⟨f, hany, hf⟩ := hP5.grps.any
                            have hgl := HN3'.out.grp_le
                            obtain ⟨i1, hi1, hy0, hy1, hy2⟩ := info_parts info24
                            have HE : Hid (∀ o gv' w6, Appended (w5.alloc o) u8.ownBlock 24 1 grp.length 1 f [.slice (some ⟨xr, 0, none⟩) (D + 1) xc] gv' w6 → ∃ G, G < um deg ord n + wm deg pe (v :: (u :: rest)) ∧ Inner w B n deg tg root G gv' (.slice (some ⟨g, 0, none⟩) (k + 1) cap) w6) :=
                              fun o gv' w6 ha => pop_end HN3'.out Hpe.out Hroot.out HVv.out hP5 rfl hf ha
                            have HA2 : Hid (∀ o, (u8 = .slice none 0 0 ∧ grp.length = 0) ∨ ∃ g cap, u8 = .slice (some ⟨g, 0, none⟩) grp.length cap ∧ Arr (w5.alloc o) g 24 (cap * 1) (grp.length * 1) f ∧ cap ≤ maxLen) := fun o => hany.imp id (fun ⟨g, cap, h1, h2, h3⟩ => ⟨g, cap, h1, h2.alloc o, h3⟩)
                            obtain ⟨GL, hGL⟩ : ∃ GL, GL = grp.length := ⟨_, rfl⟩
                            rw [← hGL] at HE HA2 hgl
                            clear hP5 hany hf hGL
                            go_wp2_with (at_builtin; refine wpList_append_any _ rfl (.tmp 179) (.tmp 181) 22 rfl 24 i1 (.slice none 0 0) 1 24 Try.underlying22 hi1 hy0 hy1 hy2 rfl u8 GL f rfl ?daq ⟨w5.heap.size, 0, none⟩ 1 1 [.slice (some ⟨xr, 0, none⟩) (D + 1) xc] rfl rfl ?dbq ?dcq ?ddq ?deq ?dfq ?_)
                            case daq => simpa only [Nat.mul_one] using HA2.out _
                            case dcq => first | rfl | (intro u hu; simp at hu; subst hu; rfl)
                            case deq => unfold maxLen; omega
                            case dfq => omega
                            intro gv' w6 hap
                            obtain ⟨G', hG', hI'⟩ := HE.out _ _ _ hap
                            clear hap
                            have HI' : Hid (Inner w B n deg tg root G' gv' (.slice (some ⟨g, 0, none⟩) (k + 1) cap) w6) := hI'
                            have HG' : Hid (G' < um deg ord n + wm deg pe (v :: (u :: rest))) := hG'
                            clear hI' hG'
                            go_wp2
                            go_roundg G'
                            case measure => rw [HGk.out]; exact HG'.out
                            case rel => exact HI'.out
                          · have hxv : ((x : Int) == (v : Int)) = false := by
                              have h1 := hP5.nd
                              have h2 : x ≠ v := fun e => by
                                have h3 := sorted_nodup HN3'.out.inv.sorted
                                have h4 : (seg ++ [v]) ++ bot = seg ++ v :: bot := by simp
                                rw [← h4, Hsplit.out] at h3
                                have h5 := (List.nodup_append.1 h3).1
                                have h6 := (List.nodup_append.1 h5).2.1
                                rw [List.nodup_cons] at h6
                                exact h6.1 (e ▸ hvt)
                              simp; omega
                            have HP5 : Hid (PopS w B n ord lo2 bot nxt grp u8 (.slice (some ⟨g, 0, none⟩) (k + 1) cap) (u :: rest) pe (upd on' x false) (.slice (some ⟨sg, 0, none⟩) S sc) (done ++ [x]) todo (.slice (some ⟨xr, 0, none⟩) (D + 1) xc) w5) := hP5
                            clear hP5
                            go_wp2
                            go_roundg todo.length
                            case measure => rw [HG.out]; simp
                            case rel => exact ⟨_, _, _, _, HP5.out, by rw [Hsplit.out]; simp, htd, rfl⟩

                    · have hne : (lo2 v == ord v) = false := by simp; exact hroot
                      have HI : Hid (∀ j, ∃ G, G < um deg ord n + wm deg pe (v :: u :: rest) ∧ Inner w B n deg tg root G u8 (.slice (some ⟨g, 0, none⟩) (k + 1) cap) (W2.drewN j)) := fun j => turn_back (HN2.out.drewN j) Hpe.out hroot Hle.out HVv.out (HW2.out.drewN j)
                      go_quiet (fail)
                      go_wp2
                      obtain ⟨G', hG', hI'⟩ := HI.out nq
                      go_roundg G'
                      case measure => rw [HGk.out]; exact hG'
                      case rel => exact hI'

          · have hu1 : (ord root != -1) = true := by simp; omega
            have HO : Hid (Outer w B n deg tg (root + 1) u8 wr) := ⟨_, _, _, _, _, _, _, _, _, HN.out, fun v hv => if e : v = root then by rw [e]; omega else HV.out v (by omega)⟩
            go_wp2
            go_roundw
            case rel => exact ⟨root + 1, by omega, by go_num, HO.out⟩
            case measure => simp [intOf]; omega
        · have hrn : n = root := by omega
          subst hrn
          have HO : Hid (SccOut B n deg tg u8 wr ∧ Below B w wr) := hO.out
          clear hO
          go_wp2
          go_ret
          exact ⟨_, rfl, HO.out⟩
end Go.Proofs.Qxb6604011a.Scc
