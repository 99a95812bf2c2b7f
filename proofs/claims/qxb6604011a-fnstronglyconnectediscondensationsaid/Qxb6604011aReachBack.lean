import Derived.Test.Qxb6604011aReach
import Derived.Test.Qxb6604011aCsr
namespace Go.Proofs.Qxb6604011a.Scc
open Go.RowKit Go.Deep

set_option maxHeartbeats 2000000 in
set_option maxRecDepth 100000 in
theorem reach12 (w : World) (lo sb cb tb rb n M : Nat) (d ra : Nat → Nat) (c : Nat → Int) (g root : Nat) (L : List Nat) (hn : n ≤ 65536) (hM : M = sm d n) (hMm : M ≤ 8589934592) (ht : ∀ i k, i < n → k < d i → ra (sm d i + k) < n)
    (hA : Arr w sb 4 n n (fun i => .bool (decide (c i < (g : Int))))) (hC : Arr w cb 3 n n (fun i => .int .i64 (c i))) (hS : Arr w tb 3 (n + 1) (n + 1) (fun i => .int .i64 (sm d i : Nat))) (hR : Arr w rb 3 M M (fun i => .int .i64 (ra i : Nat)))
    (hlo : lo ≤ sb) (hr : root < n) (hcr : c root = g) (hW : Whole n d (fun i j => ra (sm d i + j)) c g root) (hL : L.Nodup) (hm : ∀ v, v ∈ L ↔ c v = g) :
    Calls Try.prog 12 #[.slice (some ⟨tb, 0, none⟩) (n + 1) (n + 1), .slice (some ⟨rb, 0, none⟩) M M, .slice (some ⟨cb, 0, none⟩) n n, .int .i64 root, .slice (some ⟨sb, 0, none⟩) n n] w (Reached lo sb w n c g L.length) := by
  obtain ⟨nb, hnb⟩ : ∃ nb : Nat → Nat → Nat, nb = fun i j => ra (sm d i + j) := ⟨_, rfl⟩
  have HB : Hid (nb = fun i j => ra (sm d i + j)) := hnb
  rw [← hnb] at hW
  have HT : Hid (∀ i k, i < n → k < d i → nb i k < n) := by rw [hnb]; exact ht
  have HC : Hid (∀ wr, Kept lo sb w wr → ∀ i, i < n → wr.cell? ⟨cb, i, none⟩ = some (.int .i64 (c i))) := fun wr hk i hi => by
    rw [hk.cell hC.lt (arr_ne hC hA (by decide))]
    exact hC.cell hi
  have HSt : Hid (∀ wr, Kept lo sb w wr → ∀ i, i < n + 1 → wr.cell? ⟨tb, i, none⟩ = some (.int .i64 (sm d i : Nat))) := fun wr hk i hi => by
    rw [hk.cell hS.lt (arr_ne hS hA (by decide))]
    exact hS.cell hi
  have HRa : Hid (∀ wr, Kept lo sb w wr → ∀ i, i < M → wr.cell? ⟨rb, i, none⟩ = some (.int .i64 (ra i : Nat))) := fun wr hk i hi => by
    rw [hk.cell hR.lt (arr_ne hR hA (by decide))]
    exact hR.cell hi
  have HM : Hid (∀ i, i < n → sm d (i + 1) ≤ M) := fun i hi => by rw [hM]; exact sm_le d hi
  have HW : Hid (Whole n d nb c g root) := hW
  have HL : Hid (L.Nodup ∧ ∀ v, v ∈ L ↔ c v = g) := ⟨hL, hm⟩
  have Hlo : Hid (lo ≤ sb ∧ sb < w.heap.size) := ⟨hlo, hA.lt⟩
  have p1 : w.cell? ⟨cb, root, none⟩ = some (.int .i64 (g : Nat)) := by rw [hC.cell hr, hcr]
  have p2 := hA.cell hr
  have p3 := hA.frozen root
  have HS : Hid (Dfs lo sb w n d nb c g root [root] [root] (.slice (some ⟨w.heap.size, 0, none⟩) 1 1) n 0 ((w.setCell ⟨sb, root, none⟩ (.bool true)).alloc (.cells #[.int .i64 (root : Nat)] 3))) := dfs_start hA hlo hr hcr
  clear hnb ht hW hL hm hA hC hlo hcr hS hR hM
  go_enter Try.func12, Try.ntmps12
  go_wp2
  go_loopg [12, 13] (2 * (n - 1) + 1) (fun G cnt sv wr => Ahead lo sb w n d nb c g root G cnt sv wr)
  case atStart => exact ⟨_, _, HS.out, rfl, rfl⟩
  case round =>
    clear HS p1 p2 p3
    obtain ⟨sl, stk, hD, hcnt, hG⟩ := hrel
    have HG : Hid (gk = 2 * (n - sl.length) + stk.length) := hG
    clear hG
    rcases stk with _ | ⟨x, rest⟩
    · obtain ⟨ao, cp, hsv⟩ := hD.stack.none
      obtain ⟨h1, h2, h3⟩ := hD.done HW.out HL.out.1 HL.out.2
      rw [h1] at hcnt
      have HO : Hid (Kept lo sb w wr ∧ Arr wr sb 4 n n (fun i => .bool (decide (c i < (g : Int) + 1)))) := ⟨h2, h3⟩
      obtain ⟨Lz, hLz⟩ : ∃ Lz, Lz = L.length := ⟨_, rfl⟩
      rw [← hLz] at hcnt
      have HLz : Hid (Lz = L.length) := hLz
      subst hsv hcnt
      clear hD h1 h2 h3 hLz HG
      go_wp2
      go_ret
      exact ⟨by rw [HLz.out]; rfl, HO.out⟩
    · obtain ⟨sbk, cp, hsv, t1, t2, t3, hxn, hml, hP⟩ := hD.pop
      have hle := hD.le
      obtain ⟨m, hm⟩ : ∃ m, m = rest.length := ⟨_, rfl⟩
      rw [← hm] at hsv t1 t2 hml hP
      have HP : Hid (Within lo sb w n d nb c g root x 0 gk u12 (.slice (some ⟨sbk, 0, none⟩) m cp) wr) := ⟨sl, rest, hP, hcnt, by rw [HG.out]; simp⟩
      have hmn : m + 1 ≤ n := by omega
      obtain ⟨a, ha⟩ : ∃ a, a = sm d x := ⟨_, rfl⟩
      obtain ⟨e, he⟩ : ∃ e, e = sm d (x + 1) := ⟨_, rfl⟩
      have hae : e = a + d x := by rw [ha, he]; rfl
      have Hae : Hid (e = a + d x) := hae
      have hale : a ≤ e := by omega
      have heM : e ≤ M := by rw [he]; exact HM.out x hxn
      have Ha : Hid (a = sm d x) := ha
      have HA1 : Hid (∀ wr, Kept lo sb w wr → wr.cell? ⟨tb, x + 1, none⟩ = some (.int .i64 (e : Nat))) := fun wr hk => by rw [he]; exact HSt.out wr hk (x + 1) (by omega)
      have t4 : wr.cell? ⟨tb, x, none⟩ = some (.int .i64 (a : Nat)) := by rw [ha]; exact HSt.out wr hD.kept x (by omega)
      subst hsv
      clear hD hP hcnt hm hle hml HG ha he hae
      go_wp2
      go_loopw [12, 13, 15] (fun cnt sv i wr => ∃ p : Nat, a ≤ p ∧ p ≤ e ∧ i = .int .i64 p ∧ Within lo sb w n d nb c g root x (p - a) gk cnt sv wr) (fun _ _ i _ => e - (intOf i).toNat)
      case atStart => exact ⟨a, Nat.le_refl _, hale, rfl, by rw [Nat.sub_self]; exact HP.out⟩
      case round =>
        rename World => wz
        obtain ⟨p, hap, hpe, rfl, hI⟩ := hrel
        clear HP t1 t2 t3 t4
        by_cases hkl : p < e
        · obtain ⟨q, m2, ys, vo, vc, hcnt, hq, hsv, hm2, hany, sl2, stk2, hD, hql, hml, hys, hGG⟩ := hI.shape Hlo.out.2
          subst hcnt hsv
          have r1 := HA1.out wz hD.kept
          obtain ⟨y, hy⟩ : ∃ y, y = nb x (p - a) := ⟨_, rfl⟩
          have hyn : y < n := by rw [hy]; exact HT.out x _ hxn (by have := Hae.out; omega)
          have r2 : wz.cell? ⟨rb, p, none⟩ = some (.int .i64 (y : Nat)) := by
            rw [HRa.out wz hD.kept p (by omega), hy, HB.out]
            show some (Value.int .i64 (ra p : Nat)) = some (Value.int .i64 (ra (sm d x + (p - a)) : Nat))
            rw [← Ha.out, show a + (p - a) = p by omega]
          have r3 := HC.out wz hD.kept y hyn
          have hp1 : p + 1 - a = p - a + 1 := by omega
          have HP1 : Hid (p + 1 - a = p - a + 1) := hp1
          by_cases hcy : c y = g
          · rw [hcy] at r3
            have r4 := hD.seen.cell hyn
            have r5 := hD.seen.frozen y
            by_cases hyl : y ∈ sl2
            · have e4 : sn c g sl2 y = true := by unfold sn; simp [hyl]
              rw [e4] at r4
              have HN : Hid (Within lo sb w n d nb c g root x (p + 1 - a) gk (.int .i64 (q : Nat)) (.slice vo m2 vc) wz) := by rw [hp1]; exact Within.stay hD hql hGG (fun _ => by rw [← hy]; exact hyl)
              clear hD hany hI hy hql hml hys hGG hcy e4 hyl r5 hp1
              go_wp2
              go_roundw
              case rel => exact ⟨p + 1, by omega, by omega, by go_num, HN.out⟩
              case measure => simp [intOf]; omega
            · have e4 : sn c g sl2 y = false := by unfold sn; simp [hyl, hcy]
              rw [e4] at r4
              have HAPP : Hid (∀ o sv' w5, Appended ((wz.setCell ⟨sb, y, none⟩ (.bool true)).alloc o) (Value.slice vo m2 vc).ownBlock 3 1 m2 1 (intf ys) [.int .i64 (y : Nat)] sv' w5 → Within lo sb w n d nb c g root x (p - a + 1) gk (.int .i64 ((q : Int) + 1)) sv' w5) :=
                fun o sv' w5 ha => Within.push hD hql hml hys hGG Hlo.out hy.symm hyn hcy hyl o sv' w5 ha
              have HIA : Hid (∀ o, (Value.slice vo m2 vc = .slice none 0 0 ∧ m2 = 0) ∨ ∃ g cap, Value.slice vo m2 vc = .slice (some ⟨g, 0, none⟩) m2 cap ∧ Arr ((wz.setCell ⟨sb, y, none⟩ (.bool true)).alloc o) g 3 (cap * 1) (m2 * 1) (intf ys) ∧ cap ≤ maxLen) := fun o => hany o y (.bool true)
              clear hD hany hI hy hql hml hys hGG hcy e4 hyl hp1
              obtain ⟨i0, hi, hz0, hz1, hz2⟩ := info_parts info3
              go_upto_region 14 with fail
              generalize wz.setCell ⟨sb, y, none⟩ (.bool true) = W1 at HAPP HIA ⊢
              clear r1 r2 r3 r4 r5
              go_wp2_with (at_builtin; refine wpList_append_any _ rfl (.tmp 75) (.tmp 77) 24 rfl 3 i0 (.int .i64 0) 1 8 Try.underlying24 hi hz0 hz1 hz2 rfl (Value.slice vo m2 vc) m2 (intf ys) rfl ?ca ⟨W1.heap.size, 0, none⟩ 1 1 [.int .i64 y] rfl rfl ?cb ?cc ?cd ?ce ?cf ?_)
              case ca => exact HIA.out _
              case cb =>
                intro j u hj
                match j, hj with
                | 0, hj => simp at hj; subst hj; simp [Addr.add]
              case cc =>
                intro u hu
                simp at hu
                subst hu
                rfl
              case cd => omega
              case ce => unfold maxLen; omega
              case cf => omega
              intro sv' w5 hap2
              have HN : Hid (Within lo sb w n d nb c g root x (p + 1 - a) gk (.int .i64 ((q : Int) + 1)) sv' w5) := by rw [HP1.out]; exact HAPP.out _ _ _ hap2
              clear hap2 HAPP HIA hi hz0 hz1 hz2
              go_wp2
              go_roundw
              case rel => exact ⟨p + 1, by omega, by omega, by go_num, HN.out⟩
              case measure => simp [intOf]; omega
          · have e3 : (c y == (g : Int)) = false := by simpa using hcy
            have HN : Hid (Within lo sb w n d nb c g root x (p + 1 - a) gk (.int .i64 (q : Nat)) (.slice vo m2 vc) wz) := by rw [hp1]; exact Within.stay hD hql hGG (fun h => absurd (by rw [hy]; exact h) hcy)
            clear hD hany hI hy hql hml hys hGG hcy hp1
            go_wp2
            go_roundw
            case rel => exact ⟨p + 1, by omega, by omega, by go_num, HN.out⟩
            case measure => simp [intOf]; omega
        · have hke : e = p := by omega
          have r1 : wz.cell? ⟨tb, x + 1, none⟩ = some (.int .i64 (e : Nat)) := by
            obtain ⟨sl2, stk2, hD, _⟩ := hI
            exact HA1.out wz hD.kept
          have HN : Hid (∃ G', G' < gk ∧ Ahead lo sb w n d nb c g root G' u12 u13 wz) := by
            have h1 : p - a = d x := by have := Hae.out; omega
            rw [h1] at hI
            exact hI.leave
          subst hke
          clear hI
          go_wp2
          obtain ⟨G', hG', hA'⟩ := HN.out
          go_roundg G'
          case measure => exact hG'
          case rel => exact hA'
end Go.Proofs.Qxb6604011a.Scc
