import Derived.Test.Qxb6604011aIn
import Derived.Lib.SliceRun
namespace Go.Proofs.Qxb6604011a.Scc
open Go.RowKit Go.Deep

theorem nil22 (w : World) (a : Option Addr) (n c n' c' : Nat) : (binOp .eql 22 (.slice a n c) (.slice none n' c')).run Try.prog w = .ok (.bool a.isNone) w :=
  Lib.run_eql_slice_nil w _ _ a n c n' c' Try.underlying22
theorem nil24 (w : World) (a : Option Addr) (n c n' c' : Nat) : (binOp .eql 24 (.slice a n c) (.slice none n' c')).run Try.prog w = .ok (.bool a.isNone) w :=
  Lib.run_eql_slice_nil w _ _ a n c n' c' Try.underlying24

/-- A row of the copy. -/
def RowOf (wr : World) (lo : Nat) (v : Value) (d : Nat) (z : Nat → Int) : Prop :=
  (v = .slice none 0 0 ∧ d = 0) ∨ ∃ g, lo ≤ g ∧ v = .slice (some ⟨g, 0, none⟩) d d ∧ Arr wr g 3 d d (fun k => .int .i64 (z k))
theorem RowOf.block {wr w' : World} {lo : Nat} {v : Value} {d : Nat} {z : Nat → Int} (h : RowOf wr lo v d z) (hb : ∀ k, lo ≤ k → k < wr.heap.size → w'.heap[k]? = wr.heap[k]?) : RowOf w' lo v d z := by
  rcases h with h | ⟨g, h1, h2, h3⟩
  · exact Or.inl h
  · exact Or.inr ⟨g, h1, h2, h3.of_block (hb g h1 h3.lt)⟩

def CloneAt (w : World) (B n : Nat) (deg : Nat → Nat) (tz : Nat → Nat → Int) (i : Nat) (wr : World) : Prop :=
  Below B w wr ∧ B < wr.heap.size ∧ ∃ rv : Nat → Value, Arr wr B 24 n n (fun j => if j < i then rv j else .slice none 0 0) ∧ ∀ j, j < i → RowOf wr (B + 1) (rv j) (deg j) (tz j)

theorem clone_start (w : World) (n : Nat) (deg : Nat → Nat) (tz : Nat → Nat → Int) : CloneAt w w.heap.size n deg tz 0 (w.alloc (.cells (madeCells #[.slice none 0 0] n) 24)) :=
  ⟨(Below.refl _ _).alloc (Nat.le_refl _) _, by rw [nblk_alloc]; omega, fun _ => undef, (Arr_made w (.slice none 0 0) n 24).congr (fun i _ => by simp), fun j hj => absurd hj (by omega)⟩
theorem CloneAt.skip {w wr : World} {B n i : Nat} {deg : Nat → Nat} {tz : Nat → Nat → Int} (h : CloneAt w B n deg tz i wr) (hd : deg i = 0) : CloneAt w B n deg tz (i + 1) wr := by
  obtain ⟨h1, h2, rv, h3, h4⟩ := h
  refine ⟨h1, h2, fun j => if j = i then .slice none 0 0 else rv j, h3.congr (fun j _ => ?_), fun j hj => ?_⟩
  · by_cases e : j = i
    · subst e; simp
    · by_cases e2 : j < i
      · simp [e, e2, show j < i + 1 by omega]
      · simp [e2, show ¬ j < i + 1 by omega]
  · by_cases e : j = i
    · subst e; dsimp only; rw [if_pos rfl]; exact Or.inl ⟨rfl, hd⟩
    · dsimp only; rw [if_neg e]; exact h4 j (by omega)

/-- The copy of one row, as it grows. -/
def CopyAt (wr : World) (g d : Nat) (z : Nat → Int) (k : Nat) (w2 : World) : Prop :=
  Below g wr w2 ∧ w2.heap.size = g + 1 ∧ Arr w2 g 3 d d (fun j => .int .i64 (if j < k then z j else 0))
theorem copy_start (wr : World) (d : Nat) (z : Nat → Int) : CopyAt wr wr.heap.size d z 0 (wr.alloc (.cells (madeCells #[.int .i64 0] d) 3)) :=
  ⟨(Below.refl _ _).alloc (Nat.le_refl _) _, by rw [nblk_alloc], (Arr_made wr (.int .i64 0) d 3).congr (fun i _ => by simp)⟩
theorem CopyAt.step {wr w2 : World} {g d k : Nat} {z : Nat → Int} (h : CopyAt wr g d z k w2) : CopyAt wr g d z (k + 1) (w2.setCell ⟨g, k, none⟩ (.int .i64 (z k))) := by
  obtain ⟨h1, h2, h3⟩ := h
  refine ⟨h1.setCell (Nat.le_refl _) _, by rw [nblk_setCell]; exact h2, (h3.set k _).congr (fun i hi => ?_)⟩
  by_cases e : i = k
  · subst e; simp
  · by_cases e2 : i < k
    · simp [e, e2, show i < k + 1 by omega]
    · simp [e, e2, show ¬ i < k + 1 by omega]
theorem CloneAt.store {w wr w2 : World} {B n i : Nat} {deg : Nat → Nat} {tz : Nat → Nat → Int} (h : CloneAt w B n deg tz i wr) (hi : i < n) (hc : CopyAt wr wr.heap.size (deg i) (tz i) (deg i) w2) :
    CloneAt w B n deg tz (i + 1) (w2.setCell ⟨B, i, none⟩ (.slice (some ⟨wr.heap.size, 0, none⟩) (deg i) (deg i))) := by
  obtain ⟨h1, h2, rv, h3, h4⟩ := h
  obtain ⟨c1, c2, c3⟩ := hc
  have keep : ∀ k, k < wr.heap.size → k ≠ B → (w2.setCell ⟨B, i, none⟩ (.slice (some ⟨wr.heap.size, 0, none⟩) (deg i) (deg i))).heap[k]? = wr.heap[k]? := fun k hk hne => by
    rw [blk_setCell_other _ _ _ _ hne]; exact c1.block k hk
  refine ⟨(h1.trans (c1.mono (by omega))).setCell (Nat.le_refl _) _, by rw [nblk_setCell]; omega, fun j => if j = i then .slice (some ⟨wr.heap.size, 0, none⟩) (deg i) (deg i) else rv j, ((h3.of_block (c1.block B h2)).set i _).congr (fun j _ => ?_), fun j hj => ?_⟩
  · by_cases e : j = i
    · subst e; simp
    · by_cases e2 : j < i
      · simp [e, e2, show j < i + 1 by omega]
      · simp [e, e2, show ¬ j < i + 1 by omega]
  · by_cases e : j = i
    · subst e
      dsimp only
      rw [if_pos rfl]
      refine Or.inr ⟨wr.heap.size, by omega, rfl, (c3.of_block (blk_setCell_other _ _ _ _ (by show wr.heap.size ≠ B; omega))).congr (fun k hk => by rw [if_pos hk])⟩
    · dsimp only
      rw [if_neg e]
      exact (h4 j (by omega)).block (fun k hk1 hk2 => keep k hk2 (by omega))
theorem CloneAt.rows {w wr : World} {B n : Nat} {deg : Nat → Nat} {tz : Nat → Nat → Int} (h : CloneAt w B n deg tz n wr) : RowsAt wr (.slice (some ⟨B, 0, none⟩) n n) n deg tz := by
  obtain ⟨h1, h2, rv, h3, h4⟩ := h
  refine ⟨some ⟨B, 0, none⟩, n, rfl, fun h => by simp at h, fun _ => ⟨B, 0, rfl, fun i hi => ?_⟩⟩
  have hc := h3.cell hi
  rw [if_pos hi] at hc
  rw [Nat.zero_add]
  rcases h4 i hi with ⟨e1, e2⟩ | ⟨g, _, e1, e2⟩
  · exact ⟨none, 0, by rw [hc, e1, e2], fun _ => ⟨rfl, e2⟩, fun h => by omega⟩
  · refine ⟨some ⟨g, 0, none⟩, deg i, by rw [hc, e1], fun h => by simp at h, fun _ => ⟨g, 0, rfl, fun k hk => ?_⟩⟩
    rw [Nat.zero_add]
    exact e2.cell hk

def Cloned (w : World) (n : Nat) (deg : Nat → Nat) (tz : Nat → Nat → Int) (e : Ending) (w' : World) : Prop :=
  ∃ v', e = .returned v' ∧ RowsAt w' v' n deg tz ∧ Below w.heap.size w w'

set_option maxHeartbeats 800000 in
theorem clone7 (w : World) (v : Value) (n : Nat) (deg : Nat → Nat) (tz : Nat → Nat → Int) (hr : RowsAt w v n deg tz) (hn : n ≤ 65536) (hd : ∀ i, i < n → deg i ≤ 1048576) : Calls Try.prog 7 #[v] w (Cloned w n deg tz) := by
  obtain ⟨ao, cap, rfl, hnil, hg⟩ := hr
  have hmk := run_make_row' (P := Try.prog) 22 24 (.slice none 0 0) 24 Try.underlying22 info24 rfl .i64 .i64 n (by omega) (by omega)
  by_cases hn0 : 0 < n
  · obtain ⟨b, off, rfl, hrow⟩ := hg hn0
    have hbw : b < w.heap.size := by
      obtain ⟨ro, rc, hc, _⟩ := hrow 0 hn0
      exact World.block_lt_of_cell? w ⟨b, off + 0, none⟩ hc
    have HR : Hid (∀ i, i < n → ∃ ro rc, w.cell? ⟨b, off + i, none⟩ = some (.slice ro (deg i) rc) ∧ (ro = none → rc = 0 ∧ deg i = 0) ∧
      (0 < deg i → ∃ rb rf, ro = some ⟨rb, rf, none⟩ ∧ ∀ k, k < deg i → w.cell? ⟨rb, rf + k, none⟩ = some (.int .i64 (tz i k)))) := hrow
    have HD : Hid (∀ i, i < n → deg i ≤ 1048576) := hd
    clear hg hrow hd hnil
    obtain ⟨B, hBw⟩ : ∃ B, w.heap.size = B := ⟨_, rfl⟩
    have HBw : Hid (w.heap.size = B) := hBw
    rw [hBw] at hbw
    have HS : Hid (CloneAt w B n deg tz 0 (w.alloc (.cells (madeCells #[.slice none 0 0] n) 24))) := hBw ▸ clone_start w n deg tz
    have hnil2 := nil22
    have hnil4 := nil24
    go_enter Try.func7, Try.ntmps7
    go_wp2
    clear hBw hmk hnil2
    go_loopw [4] (fun i wr => ∃ k : Nat, k ≤ n ∧ i = .int .i64 k ∧ CloneAt w B n deg tz k wr) (fun i _ => n - (intOf i).toNat)
    case atStart => exact ⟨0, Nat.zero_le _, rfl, HS.out⟩
    case round =>
      obtain ⟨k, hk, rfl, hC⟩ := hrel
      clear HS
      by_cases hlt : k < n
      · obtain ⟨ro, rc, hc, hno, hce⟩ := HR.out k hlt
        have hdk := HD.out k hlt
        have hbel := hC.1
        have r1 : wr.cell? ⟨b, off + k, none⟩ = some (.slice ro (deg k) rc) := by rw [hbel.cell hbw]; exact hc
        have HC : Hid (CloneAt w B n deg tz k wr) := hC
        cases ro with
        | none =>
          obtain ⟨hrc, hd0⟩ := hno rfl
          subst hrc
          rw [hd0] at r1
          have HC2 : Hid (CloneAt w B n deg tz (k + 1) wr) := hC.skip hd0
          clear hC hc hno hce hbel hd0 hdk
          go_wp2
          go_roundw
          case rel => exact ⟨k + 1, by omega, by go_num, HC2.out⟩
          case measure => simp [intOf]; omega
        | some ra =>
          rename World => wo
          have hmk := run_make_row' (P := Try.prog) 24 3 (.int .i64 0) 8 Try.underlying24 info3 rfl .i64 .i64 (deg k) (by omega) (by omega)
          have HE : Hid (0 < deg k → ∃ rb rf, some ra = some ⟨rb, rf, none⟩ ∧ ∀ j, j < deg k → w.cell? ⟨rb, rf + j, none⟩ = some (.int .i64 (tz k j))) := hce
          have Hbel : Hid (Below B w wo) := hbel
          obtain ⟨g, hgo⟩ : ∃ g, wo.heap.size = g := ⟨_, rfl⟩
          have HS2 : Hid (CopyAt wo g (deg k) (tz k) 0 (wo.alloc (.cells (madeCells #[.int .i64 0] (deg k)) 3))) := hgo ▸ copy_start wo (deg k) (tz k)
          have Hgo : Hid (wo.heap.size = g) := hgo
          have hBs : B < g := by rw [← hgo]; exact hC.2.1
          clear hC hc hno hce hbel
          go_wp2
          clear hgo hmk r1
          go_loopw [7] (fun i w2 => ∃ j : Nat, j ≤ deg k ∧ i = .int .i64 j ∧ CopyAt wo g (deg k) (tz k) j w2) (fun i _ => deg k - (intOf i).toNat)
          case atStart => exact ⟨0, Nat.zero_le _, rfl, HS2.out⟩
          case round =>
            obtain ⟨j, hj, rfl, hcp⟩ := hrel
            clear HS2
            by_cases hjl : j < deg k
            · obtain ⟨rb, rf, hra, hcells⟩ := HE.out (by omega)
              simp only [Option.some.injEq] at hra
              subst hra
              have hcj := hcells j hjl
              have hrb : rb < B := by rw [← HBw.out]; exact World.block_lt_of_cell? w ⟨rb, rf + j, none⟩ hcj
              have p1 : wr.cell? ⟨rb, rf + j, none⟩ = some (.int .i64 (tz k j)) := by rw [hcp.1.cell (show rb < g by omega), Hbel.out.cell hrb]; exact hcj
              have p2 := hcp.2.2.cell hjl
              have p3 := hcp.2.2.frozen j
              have HP : Hid (CopyAt wo g (deg k) (tz k) (j + 1) (wr.setCell ⟨g, j, none⟩ (.int .i64 (tz k j)))) := hcp.step
              clear hcp hcells hcj
              go_wp2
              go_roundw
              case rel => exact ⟨j + 1, by omega, by go_num, HP.out⟩
              case measure => simp [intOf]; omega
            · have hje : j = deg k := by omega
              subst hje
              have HCN : Hid (CloneAt w B n deg tz (k + 1) (wr.setCell ⟨B, k, none⟩ (.slice (some ⟨g, 0, none⟩) (deg k) (deg k)))) := by
                have h1 := HC.out
                have h2 := Hgo.out
                subst h2
                exact h1.store hlt hcp
              have p1 : ∃ x, wr.cell? ⟨B, k, none⟩ = some x := by
                obtain ⟨_, _, rv, h3, _⟩ := HC.out
                exact ⟨_, (h3.of_block (hcp.1.block B hBs)).cell hlt⟩
              have p2 : wr.frozen? ⟨B, k, none⟩ = false := by
                obtain ⟨_, _, rv, h3, _⟩ := HC.out
                exact (h3.of_block (hcp.1.block B hBs)).frozen k
              obtain ⟨x, p1⟩ := p1
              clear hcp
              go_wp2
              go_roundw
              case rel => exact ⟨k + 1, by omega, by go_num, HCN.out⟩
              case measure => simp [intOf]; omega
      · have hkn : n = k := by omega
        subst hkn
        have HO : Hid (RowsAt wr (.slice (some ⟨B, 0, none⟩) n n) n deg tz ∧ Below B w wr) := ⟨hC.rows, hC.1⟩
        clear hC
        go_wp2
        go_ret
        exact ⟨_, rfl, HO.out.1, by rw [HBw.out]; exact HO.out.2⟩
  · have h0 : n = 0 := by omega
    subst h0
    cases ao with
    | none =>
      obtain ⟨hcap, _⟩ := hnil rfl
      subst hcap
      have HO : Hid (RowsAt w (.slice none 0 0) 0 deg tz) := ⟨none, 0, rfl, fun _ => ⟨rfl, rfl⟩, fun h => absurd h (by omega)⟩
      have hnil2 := nil22
      clear hg hnil hmk hd
      go_enter Try.func7, Try.ntmps7
      go_wp2
      go_ret
      exact ⟨_, rfl, HO.out, Below.refl _ _⟩
    | some ra =>
      have HO : Hid (RowsAt (w.alloc (.cells (madeCells #[.slice none 0 0] 0) 24)) (.slice (some ⟨w.heap.size, 0, none⟩) 0 0) 0 deg tz ∧ Below w.heap.size w (w.alloc (.cells (madeCells #[.slice none 0 0] 0) 24))) :=
        ⟨(clone_start w 0 deg tz).rows, (clone_start w 0 deg tz).1⟩
      have hnil2 := nil22
      rw [show ((0 : Nat) : Int) = 0 from rfl] at hmk
      clear hg hnil hd
      go_enter Try.func7, Try.ntmps7
      go_wp2
      refine wp_loop_rounds 1 ?_
      rw [rounds_succ]
      go_wp2
      go_ret
      exact ⟨_, rfl, HO.out.1, HO.out.2⟩
end Go.Proofs.Qxb6604011a.Scc
