import Derived.Test.Qxb6604011aDfs
namespace Go.Proofs.Qxb6604011a.Scc
open Go.RowKit Go.Deep

def Ahead (lo sb : Nat) (w : World) (n : Nat) (d : Nat → Nat) (nb : Nat → Nat → Nat) (c : Nat → Int) (g : Int) (root G : Nat) (cnt sv : Value) (wr : World) : Prop :=
  ∃ sl stk : List Nat, Dfs lo sb w n d nb c g root sl stk sv n 0 wr ∧ cnt = .int .i64 (sl.length : Nat) ∧ G = 2 * (n - sl.length) + stk.length
def Within (lo sb : Nat) (w : World) (n : Nat) (d : Nat → Nat) (nb : Nat → Nat → Nat) (c : Nat → Int) (g : Int) (root x k G : Nat) (cnt sv : Value) (wr : World) : Prop :=
  ∃ sl stk : List Nat, Dfs lo sb w n d nb c g root sl stk sv x k wr ∧ cnt = .int .i64 (sl.length : Nat) ∧ 2 * (n - sl.length) + stk.length < G

section
variable {lo sb : Nat} {w wr : World} {n : Nat} {d : Nat → Nat} {nb : Nat → Nat → Nat} {c : Nat → Int} {g : Int} {root x k G : Nat} {cnt sv : Value} {sl stk : List Nat}
theorem Within.leave (h : Within lo sb w n d nb c g root x (d x) G cnt sv wr) : ∃ G', G' < G ∧ Ahead lo sb w n d nb c g root G' cnt sv wr := by
  obtain ⟨sl, stk, h1, h2, h3⟩ := h
  exact ⟨_, h3, sl, stk, h1.leave, h2, rfl⟩
theorem Within.shape (h : Within lo sb w n d nb c g root x k G cnt sv wr) (hsb : sb < w.heap.size) : ∃ (q m : Nat) (ys : List Nat) (vo : Option Addr) (vc : Nat), cnt = .int .i64 (q : Nat) ∧ q ≤ n ∧ sv = .slice vo m vc ∧ m ≤ n ∧
    (∀ o y u, (Value.slice vo m vc = .slice none 0 0 ∧ m = 0) ∨ ∃ g cap, Value.slice vo m vc = .slice (some ⟨g, 0, none⟩) m cap ∧ Arr ((wr.setCell ⟨sb, y, none⟩ u).alloc o) g 3 (cap * 1) (m * 1) (intf ys) ∧ cap ≤ maxLen) ∧
    ∃ sl stk : List Nat, Dfs lo sb w n d nb c g root sl stk (.slice vo m vc) x k wr ∧ q = sl.length ∧ m = stk.length ∧ ys = stk.reverse ∧ 2 * (n - sl.length) + stk.length < G := by
  obtain ⟨sl, stk, h1, h2, h3⟩ := h
  have hl := h1.le
  have hk := h1.len
  have hs := h1.stack
  rcases hs with ⟨e1, e2⟩ | ⟨b, cap, e1, h4, h5, h6⟩
  · have e3 : stk = [] := by simpa using e2
    subst e3
    exact ⟨sl.length, 0, [], none, 0, h2, hl, e1, by omega, fun _ _ _ => Or.inl ⟨rfl, rfl⟩, sl, [], e1 ▸ h1, rfl, rfl, rfl, h3⟩
  · rw [List.length_reverse] at e1 h6
    exact ⟨sl.length, stk.length, stk.reverse, some ⟨b, 0, none⟩, cap, h2, hl, e1, by omega, fun o y u => Or.inr ⟨b, cap, rfl, by rw [Nat.mul_one, Nat.mul_one]; exact (h6.setOther (by show b ≠ sb; omega) u).alloc o, h5⟩, sl, stk, e1 ▸ h1, rfl, rfl, rfl, h3⟩
/-- One edge looked at. -/
theorem Within.stay {q m : Nat} {vo : Option Addr} {vc : Nat} (hD : Dfs lo sb w n d nb c g root sl stk (.slice vo m vc) x k wr) (hq : q = sl.length) (hG : 2 * (n - sl.length) + stk.length < G) (hs : c (nb x k) = g → nb x k ∈ sl) :
    Within lo sb w n d nb c g root x (k + 1) G (.int .i64 (q : Nat)) (.slice vo m vc) wr := ⟨sl, stk, hD.skip hs, by rw [hq], hG⟩
theorem Within.push {q m : Nat} {vo : Option Addr} {vc : Nat} {ys : List Nat} (hD : Dfs lo sb w n d nb c g root sl stk (.slice vo m vc) x k wr) (hq : q = sl.length) (hm : m = stk.length) (hys : ys = stk.reverse) (hG : 2 * (n - sl.length) + stk.length < G) (hlo : lo ≤ sb ∧ sb < w.heap.size)
    {y : Nat} (hy : nb x k = y) (hyn : y < n) (hyc : c y = g) (hyl : y ∉ sl) (o : Obj) (sv' : Value) (w5 : World) (ha : Appended ((wr.setCell ⟨sb, y, none⟩ (.bool true)).alloc o) (Value.slice vo m vc).ownBlock 3 1 m 1 (intf ys) [.int .i64 (y : Nat)] sv' w5) :
    Within lo sb w n d nb c g root x (k + 1) G (.int .i64 ((q : Int) + 1)) sv' w5 := by
  subst hm hys
  have h1 := hD.push hlo.1 hlo.2 hy hyn hyc hyl ha
  refine ⟨_, _, h1, by rw [hq]; rfl, ?_⟩
  have := h1.le
  simp only [List.length_cons] at this ⊢
  omega
end

set_option maxHeartbeats 2000000 in
set_option maxRecDepth 100000 in
theorem reach11 (w : World) (v : Value) (lo sb cb n : Nat) (deg : Nat → Nat) (tg : Nat → Nat → Nat) (c : Nat → Int) (g root : Nat) (L : List Nat) (hg : GraphAt w v n deg tg) (hn : n ≤ 65536) (ht : ∀ i k, i < n → k < deg i → tg i k < n) (hdeg : ∀ i, i < n → deg i ≤ 1048576)
    (hA : Arr w sb 4 n n (fun i => .bool (decide (c i < (g : Int))))) (hC : Arr w cb 3 n n (fun i => .int .i64 (c i))) (hlo : lo ≤ sb) (hr : root < n) (hcr : c root = g) (hW : Whole n deg tg c g root) (hL : L.Nodup) (hm : ∀ v, v ∈ L ↔ c v = g) :
    Calls Try.prog 11 #[v, .slice (some ⟨cb, 0, none⟩) n n, .int .i64 root, .slice (some ⟨sb, 0, none⟩) n n] w (Reached lo sb w n c g L.length) := by
  obtain ⟨ao, cap, rfl, _, hg⟩ := hg
  obtain ⟨b, off, rfl, hrow⟩ := hg (by omega)
  have hnb : ∀ j u, w.cell? ⟨sb, j, none⟩ = some u → ∃ x : Bool, u = .bool x := fun j u hu => by
    obtain ⟨i, e⟩ := arr_off hA hu
    exact ⟨_, e⟩
  have HR : Hid (∀ i, i < n → ∃ ro rc, (∀ wr, Kept lo sb w wr → wr.cell? ⟨b, off + i, none⟩ = some (.slice ro (deg i) rc)) ∧
      (0 < deg i → ∃ rb rf, ro = some ⟨rb, rf, none⟩ ∧ ∀ wr, Kept lo sb w wr → ∀ k, k < deg i → wr.cell? ⟨rb, rf + k, none⟩ = some (.int .i64 (tg i k : Nat)))) := fun i hi => by
    obtain ⟨ro, rc, a1, _, a3⟩ := hrow i hi
    refine ⟨ro, rc, fun wr hk => ?_, fun hd => ?_⟩
    · rw [hk.cell (World.block_lt_of_cell? w _ a1) (fun e => by
        have e' : b = sb := e
        rw [e'] at a1
        obtain ⟨x, h⟩ := hnb (off + i) _ a1
        simp at h)]
      exact a1
    · obtain ⟨rb, rf, e1, e2⟩ := a3 hd
      refine ⟨rb, rf, e1, fun wr hk k hk2 => ?_⟩
      have a4 := e2 k hk2
      rw [hk.cell (World.block_lt_of_cell? w _ a4) (fun e => by
        have e' : rb = sb := e
        rw [e'] at a4
        obtain ⟨x, h⟩ := hnb (rf + k) _ a4
        simp at h)]
      exact a4
  have HC : Hid (∀ wr, Kept lo sb w wr → ∀ i, i < n → wr.cell? ⟨cb, i, none⟩ = some (.int .i64 (c i))) := fun wr hk i hi => by
    rw [hk.cell hC.lt (arr_ne hC hA (by decide))]
    exact hC.cell hi
  have HT : Hid (∀ i k, i < n → k < deg i → tg i k < n) := ht
  have HDg : Hid (∀ i, i < n → deg i ≤ 1048576) := hdeg
  have HW : Hid (Whole n deg tg c g root) := hW
  have HL : Hid (L.Nodup ∧ ∀ v, v ∈ L ↔ c v = g) := ⟨hL, hm⟩
  have Hlo : Hid (lo ≤ sb ∧ sb < w.heap.size) := ⟨hlo, hA.lt⟩
  have p1 : w.cell? ⟨cb, root, none⟩ = some (.int .i64 (g : Nat)) := by rw [hC.cell hr, hcr]
  have p2 := hA.cell hr
  have p3 := hA.frozen root
  have HS : Hid (Dfs lo sb w n deg tg c g root [root] [root] (.slice (some ⟨w.heap.size, 0, none⟩) 1 1) n 0 ((w.setCell ⟨sb, root, none⟩ (.bool true)).alloc (.cells #[.int .i64 (root : Nat)] 3))) := dfs_start hA hlo hr hcr
  clear hg hrow hnb ht hdeg hW hL hm hA hC hlo hcr
  go_enter Try.func11, Try.ntmps11
  go_wp2
  go_loopg [10, 11] (2 * (n - 1) + 1) (fun G cnt sv wr => Ahead lo sb w n deg tg c g root G cnt sv wr)
  case atStart => exact ⟨_, _, HS.out, rfl, rfl⟩
  case round =>
    clear HS p1 p2 p3
    obtain ⟨sl, stk, hD, hcnt, hG⟩ := hrel
    have HG : Hid (gk = 2 * (n - sl.length) + stk.length) := hG
    clear hG
    rcases stk with _ | ⟨x, rest⟩
    · obtain ⟨ao, cp, hsv⟩ := hD.stack.none
      obtain ⟨h1, h2, h3⟩ := hD.done HW.out HL.out.1 HL.out.2
      rw [h1] at hcnt
      have HO : Hid (Kept lo sb w wr ∧ Arr wr sb 4 n n (fun i => .bool (decide (c i < (g : Int) + 1)))) := ⟨h2, h3⟩
      obtain ⟨Lz, hLz⟩ : ∃ Lz, Lz = L.length := ⟨_, rfl⟩
      rw [← hLz] at hcnt
      have HLz : Hid (Lz = L.length) := hLz
      subst hsv hcnt
      clear hD h1 h2 h3 hLz HG
      go_wp2
      go_ret
      exact ⟨by rw [HLz.out]; rfl, HO.out⟩
    · obtain ⟨sbk, cp, hsv, t1, t2, t3, hxn, hml, hP⟩ := hD.pop
      have hle := hD.le
      obtain ⟨m, hm⟩ : ∃ m, m = rest.length := ⟨_, rfl⟩
      rw [← hm] at hsv t1 t2 hml hP
      have HP : Hid (Within lo sb w n deg tg c g root x 0 gk u10 (.slice (some ⟨sbk, 0, none⟩) m cp) wr) := ⟨sl, rest, hP, hcnt, by rw [HG.out]; simp⟩
      have hmn : m + 1 ≤ n := by omega
      have hdx := HDg.out x hxn
      subst hsv
      obtain ⟨ro, rc, hr1, hrE⟩ := HR.out x hxn
      have HR1 : Hid (∀ wr, Kept lo sb w wr → wr.cell? ⟨b, off + x, none⟩ = some (.slice ro (deg x) rc)) := hr1
      have HE : Hid (0 < deg x → ∃ rb rf, ro = some ⟨rb, rf, none⟩ ∧ ∀ wr, Kept lo sb w wr → ∀ k, k < deg x → wr.cell? ⟨rb, rf + k, none⟩ = some (.int .i64 (tg x k : Nat))) := hrE
      clear hD hP hcnt hm hle hml HG hr1 hrE
      go_wp2
      go_loopw [10, 11, 13] (fun cnt sv i wr => ∃ k : Nat, k ≤ deg x ∧ i = .int .i64 k ∧ Within lo sb w n deg tg c g root x k gk cnt sv wr) (fun _ _ i _ => deg x - (intOf i).toNat)
      case atStart => exact ⟨0, Nat.zero_le _, rfl, HP.out⟩
      case round =>
        rename World => wz
        obtain ⟨k, hk, rfl, hI⟩ := hrel
        clear HP t1 t2 t3
        by_cases hkl : k < deg x
        · obtain ⟨q, m2, ys, vo, vc, hcnt, hq, hsv, hm2, hany, sl2, stk2, hD, hql, hml, hys, hGG⟩ := hI.shape Hlo.out.2
          subst hcnt hsv
          obtain ⟨rb, rf, hro, hcells⟩ := HE.out (by omega)
          subst hro
          have r1 := HR1.out wz hD.kept
          obtain ⟨y, hy⟩ : ∃ y, y = tg x k := ⟨_, rfl⟩
          have hyn : y < n := by rw [hy]; exact HT.out x k hxn hkl
          have r2 : wz.cell? ⟨rb, rf + k, none⟩ = some (.int .i64 (y : Nat)) := by rw [hy]; exact hcells wz hD.kept k hkl
          have r3 := HC.out wz hD.kept y hyn
          by_cases hcy : c y = g
          · rw [hcy] at r3
            have r4 := hD.seen.cell hyn
            have r5 := hD.seen.frozen y
            by_cases hyl : y ∈ sl2
            · have e4 : sn c g sl2 y = true := by unfold sn; simp [hyl]
              rw [e4] at r4
              have HN : Hid (Within lo sb w n deg tg c g root x (k + 1) gk (.int .i64 (q : Nat)) (.slice vo m2 vc) wz) := Within.stay hD hql hGG (fun _ => by rw [← hy]; exact hyl)
              clear hD hany hI hcells hy hql hml hys hGG hcy e4 hyl r5
              go_wp2
              go_roundw
              case rel => exact ⟨k + 1, by omega, by go_num, HN.out⟩
              case measure => simp [intOf]; omega
            · have e4 : sn c g sl2 y = false := by unfold sn; simp [hyl, hcy]
              rw [e4] at r4
              have HAPP : Hid (∀ o sv' w5, Appended ((wz.setCell ⟨sb, y, none⟩ (.bool true)).alloc o) (Value.slice vo m2 vc).ownBlock 3 1 m2 1 (intf ys) [.int .i64 (y : Nat)] sv' w5 → Within lo sb w n deg tg c g root x (k + 1) gk (.int .i64 ((q : Int) + 1)) sv' w5) :=
                fun o sv' w5 ha => Within.push hD hql hml hys hGG Hlo.out hy.symm hyn hcy hyl o sv' w5 ha
              have HIA : Hid (∀ o, (Value.slice vo m2 vc = .slice none 0 0 ∧ m2 = 0) ∨ ∃ g cap, Value.slice vo m2 vc = .slice (some ⟨g, 0, none⟩) m2 cap ∧ Arr ((wz.setCell ⟨sb, y, none⟩ (.bool true)).alloc o) g 3 (cap * 1) (m2 * 1) (intf ys) ∧ cap ≤ maxLen) := fun o => hany o y (.bool true)
              clear hD hany hI hcells hy hql hml hys hGG hcy e4 hyl
              obtain ⟨i0, hi, hz0, hz1, hz2⟩ := info_parts info3
              go_upto_region 14 with fail
              generalize wz.setCell ⟨sb, y, none⟩ (.bool true) = W1 at HAPP HIA ⊢
              clear r1 r2 r3 r4 r5
              go_wp2_with (at_builtin; refine wpList_append_any _ rfl (.tmp 72) (.tmp 74) 24 rfl 3 i0 (.int .i64 0) 1 8 Try.underlying24 hi hz0 hz1 hz2 rfl (Value.slice vo m2 vc) m2 (intf ys) rfl ?ca ⟨W1.heap.size, 0, none⟩ 1 1 [.int .i64 y] rfl rfl ?cb ?cc ?cd ?ce ?cf ?_)
              case ca => exact HIA.out _
              case cb =>
                intro j u hj
                match j, hj with
                | 0, hj => simp at hj; subst hj; simp [Addr.add]
              case cc =>
                intro u hu
                simp at hu
                subst hu
                rfl
              case cd => omega
              case ce => unfold maxLen; omega
              case cf => omega
              intro sv' w5 hap
              have HN : Hid (Within lo sb w n deg tg c g root x (k + 1) gk (.int .i64 ((q : Int) + 1)) sv' w5) := HAPP.out _ _ _ hap
              clear hap HAPP HIA hi hz0 hz1 hz2
              go_wp2
              go_roundw
              case rel => exact ⟨k + 1, by omega, by go_num, HN.out⟩
              case measure => simp [intOf]; omega
          · have e3 : (c y == (g : Int)) = false := by simpa using hcy
            have HN : Hid (Within lo sb w n deg tg c g root x (k + 1) gk (.int .i64 (q : Nat)) (.slice vo m2 vc) wz) := Within.stay hD hql hGG (fun h => absurd (by rw [hy]; exact h) hcy)
            clear hD hany hI hcells hy hql hml hys hGG hcy
            go_wp2
            go_roundw
            case rel => exact ⟨k + 1, by omega, by go_num, HN.out⟩
            case measure => simp [intOf]; omega
        · have hke : k = deg x := by omega
          subst hke
          have r1 : wz.cell? ⟨b, off + x, none⟩ = some (.slice ro (deg x) rc) := by
            obtain ⟨sl2, stk2, hD, _⟩ := hI
            exact HR1.out wz hD.kept
          have HN : Hid (∃ G', G' < gk ∧ Ahead lo sb w n deg tg c g root G' u10 u11 wz) := hI.leave
          clear hI
          go_wp2
          obtain ⟨G', hG', hA'⟩ := HN.out
          go_roundg G'
          case measure => exact hG'
          case rel => exact hA'
end Go.Proofs.Qxb6604011a.Scc
