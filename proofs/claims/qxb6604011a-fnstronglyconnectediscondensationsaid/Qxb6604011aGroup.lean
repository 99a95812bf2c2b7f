import Derived.Test.Qxb6604011aClone
namespace Go.Proofs.Qxb6604011a.Scc
open Go.RowKit Go.Deep

/-- grp parts 0 .. n - 1; node v lies in group c v. -/
structure Part (n : Nat) (c : Nat → Int) (grp : List (List Nat)) : Prop where
  all : ∀ v, v < n → 0 ≤ c v
  lt : ∀ v, 0 ≤ c v → v < n ∧ c v < (grp.length : Nat)
  mem : ∀ j v, j < grp.length → (v ∈ grp.getD j [] ↔ c v = j)
  nd : ∀ j, j < grp.length → (grp.getD j []).Nodup ∧ grp.getD j [] ≠ []

def CompAt (w : World) (B n : Nat) (f : Nat → Int) (wr : World) : Prop := Below B w wr ∧ Arr wr B 3 n n (fun i => .int .i64 (f i))
theorem comp_start (w : World) (n : Nat) : CompAt w w.heap.size n (fun i => if i < 0 then -1 else 0) (w.alloc (.cells (madeCells #[.int .i64 0] n) 3)) :=
  ⟨(Below.refl _ _).alloc (Nat.le_refl _) _, (Arr_made w (.int .i64 0) n 3).congr (fun i _ => by simp)⟩
theorem CompAt.set {w wr : World} {B n : Nat} {f : Nat → Int} (h : CompAt w B n f wr) (v : Nat) (x : Int) : CompAt w B n (upd f v x) (wr.setCell ⟨B, v, none⟩ (.int .i64 x)) := by
  refine ⟨h.1.setCell (Nat.le_refl _) _, (h.2.set v _).congr (fun i _ => ?_)⟩
  unfold upd; split <;> rfl
theorem CompAt.congr {w wr : World} {B n : Nat} {f f' : Nat → Int} (h : CompAt w B n f wr) (he : ∀ i, i < n → f i = f' i) : CompAt w B n f' wr := ⟨h.1, h.2.congr (fun i hi => by rw [he i hi])⟩

theorem fill_step {w wr : World} {B n k : Nat} (h : CompAt w B n (fun i => if i < k then -1 else 0) wr) : CompAt w B n (fun i => if i < k + 1 then -1 else 0) (wr.setCell ⟨B, k, none⟩ (.int .i64 (-1))) := by
  refine (h.set k (-1)).congr (fun i _ => ?_)
  by_cases e : i = k
  · subst e; rw [upd_same]; simp
  · rw [upd_other _ _ e]
    by_cases e2 : i < k
    · simp [e2, show i < k + 1 by omega]
    · simp [e2, show ¬ i < k + 1 by omega]

theorem get_getD (L : List Nat) (k : Nat) (hk : k < L.length) : L[k]? = some (L.getD k 0) := by
  rw [List.getD_eq_getElem?_getD, List.getElem?_eq_getElem hk, Option.getD_some]

/-- What comp holds when the groups below j, and the first k members of group j, are through. -/
def cc (c : Nat → Int) (grp : List (List Nat)) (j k v : Nat) : Int := if c v < j ∨ (c v = j ∧ v ∈ (grp.getD j []).take k) then c v else -1
section
variable {n : Nat} {c : Nat → Int} {grp : List (List Nat)}
theorem cc_start (h : Part n c grp) (v : Nat) (hv : v < n) : (if v < n then (-1 : Int) else 0) = cc c grp 0 0 v := by
  have := h.all v hv
  unfold cc
  rw [if_pos hv, if_neg]
  simp
  omega
theorem cc_step (h : Part n c grp) {j k x : Nat} (hj : j < grp.length) (hk : k < (grp.getD j []).length) (hx : x = (grp.getD j []).getD k 0) : x < n ∧ cc c grp j k x = -1 ∧ ∀ v, upd (cc c grp j k) x j v = cc c grp j (k + 1) v := by
  have hxm : (grp.getD j [])[k]? = some x := by rw [hx]; exact get_getD _ _ hk
  have hmem : x ∈ grp.getD j [] := List.mem_of_getElem? hxm
  have hcx := (h.mem j x hj).1 hmem
  have hnd := (h.nd j hj).1
  have hnt : x ∉ (grp.getD j []).take k := by
    intro hm
    obtain ⟨i, hi, hi2⟩ := List.mem_take_iff_getElem.1 hm
    have h1 : (grp.getD j [])[i]? = some x := by rw [List.getElem?_eq_getElem (by omega), hi2]
    have := (List.getElem?_inj (by omega : i < (grp.getD j []).length) hnd).1 (h1.trans hxm.symm)
    omega
  have htake : ∀ v, v ∈ (grp.getD j []).take (k + 1) ↔ (v ∈ (grp.getD j []).take k ∨ v = x) := fun v => by
    rw [List.take_add_one, List.mem_append, hxm]
    simp
  refine ⟨(h.lt x (by omega)).1, ?_, fun v => ?_⟩
  · unfold cc
    rw [if_neg]
    intro hh
    rcases hh with h1 | ⟨_, h1⟩
    · omega
    · exact hnt h1
  · by_cases e : v = x
    · rw [e, upd_same]
      unfold cc
      rw [if_pos (Or.inr ⟨hcx, (htake x).2 (Or.inr rfl)⟩), hcx]
    · rw [upd_other _ _ e]
      unfold cc
      have : (c v < j ∨ c v = j ∧ v ∈ (grp.getD j []).take k) ↔ (c v < j ∨ c v = j ∧ v ∈ (grp.getD j []).take (k + 1)) := by
        rw [htake v]
        constructor
        · rintro (h | ⟨h1, h2⟩)
          · exact Or.inl h
          · exact Or.inr ⟨h1, Or.inl h2⟩
        · rintro (h | ⟨h1, h2 | h2⟩)
          · exact Or.inl h
          · exact Or.inr ⟨h1, h2⟩
          · exact absurd h2 e
      by_cases h2 : (c v < j ∨ c v = j ∧ v ∈ (grp.getD j []).take k)
      · rw [if_pos h2, if_pos (this.1 h2)]
      · rw [if_neg h2, if_neg (fun h3 => h2 (this.2 h3))]
theorem cc_next (h : Part n c grp) {j : Nat} (hj : j < grp.length) (v : Nat) : cc c grp j (grp.getD j []).length v = cc c grp (j + 1) 0 v := by
  unfold cc
  rw [List.take_length]
  have : (c v < j ∨ c v = j ∧ v ∈ grp.getD j []) ↔ (c v < (j + 1 : Nat) ∨ c v = (j + 1 : Nat) ∧ v ∈ (grp.getD (j + 1) []).take 0) := by
    rw [h.mem j v hj]
    simp
    omega
  by_cases h2 : (c v < j ∨ c v = j ∧ v ∈ grp.getD j [])
  · rw [if_pos h2, if_pos (this.1 h2)]
  · rw [if_neg h2, if_neg (fun h3 => h2 (this.2 h3))]
theorem cc_end (h : Part n c grp) {v : Nat} (hv : v < n) : cc c grp grp.length 0 v = c v := by
  unfold cc
  rw [if_pos (Or.inl (h.lt v (h.all v hv)).2)]
end

/-- What sccGroupOf hands back. -/
def CompOut (w : World) (n : Nat) (c : Nat → Int) (e : Ending) (w' : World) : Prop :=
  e = .returned (.tuple #[.slice (some ⟨w.heap.size, 0, none⟩) n n, .bool true]) ∧ CompAt w w.heap.size n c w'
set_option maxHeartbeats 800000 in
theorem group9 (w : World) (gv : Value) (lo n : Nat) (c : Nat → Int) (grp : List (List Nat)) (hG : Grps w lo gv grp (fun _ => False)) (hP : Part n c grp) (hn : n ≤ 65536) (hlen : ∀ j, j < grp.length → (grp.getD j []).length ≤ 65536) (hgl : grp.length ≤ 65536) :
    Calls Try.prog 9 #[gv, .int .i64 n] w (CompOut w n c) := by
  have hmk := run_make_row' (P := Try.prog) 24 3 (.int .i64 0) 8 Try.underlying24 info3 rfl .i64 .i64 n (by omega) (by omega)
  rcases hG with ⟨rfl, rfl⟩ | ⟨g, cap, r, rc, rfl, _, hcm, hA, hR⟩
  · have h0 : n = 0 := by
      by_cases e : 0 < n
      · have := (hP.lt 0 (hP.all 0 e)).2
        have := hP.all 0 e
        simp at *
        omega
      · omega
    subst h0
    rw [show ((0 : Nat) : Int) = 0 from rfl] at hmk
    have HC : Hid (CompAt w w.heap.size 0 c (w.alloc (.cells (madeCells #[.int .i64 0] 0) 3))) := (comp_start w 0).congr (fun i hi => absurd hi (by omega))
    clear hP hlen
    go_enter Try.func9, Try.ntmps9
    go_wp2
    refine wp_loop_rounds 1 ?_
    rw [rounds_succ]
    go_wp2
    refine wp_loop_rounds 1 ?_
    rw [rounds_succ]
    go_wp2
    refine wp_loop_rounds 1 ?_
    rw [rounds_succ]
    go_wp2
    go_ret2
    exact ⟨rfl, HC.out⟩
  · have HP : Hid (Part n c grp) := hP
    have HL : Hid (∀ j, j < grp.length → (grp.getD j []).length ≤ 65536) := hlen
    have HA : Hid (Arr w g 24 cap grp.length (fun j => .slice (some ⟨r j, 0, none⟩) (grp.getD j []).length (rc j))) := hA
    have HR : Hid (∀ j, j < grp.length → Arr w (r j) 3 (rc j) (grp.getD j []).length (fun i => .int .i64 ((grp.getD j []).getD i 0 : Nat))) := fun j hj => (hR j hj).2.2
    have HC : Hid (CompAt w w.heap.size n (fun i => if i < 0 then -1 else 0) (w.alloc (.cells (madeCells #[.int .i64 0] n) 3))) := comp_start w n
    obtain ⟨B, hB⟩ : ∃ B, w.heap.size = B := ⟨_, rfl⟩
    have HB : Hid (w.heap.size = B) := hB
    rw [hB] at HC
    obtain ⟨GL, hGL⟩ : ∃ GL, GL = grp.length := ⟨_, rfl⟩
    rw [← hGL] at hgl ⊢
    have HGL : Hid (GL = grp.length) := hGL
    clear hP hlen hA hR hGL
    go_enter Try.func9, Try.ntmps9
    go_wp2
    clear hB hmk
    go_loopw [7] (fun i wr => ∃ k : Nat, k ≤ n ∧ i = .int .i64 k ∧ CompAt w B n (fun i => if i < k then -1 else 0) wr) (fun i _ => n - (intOf i).toNat)
    case atStart => exact ⟨0, Nat.zero_le _, rfl, HC.out⟩
    case round =>
      obtain ⟨k, hk, rfl, hF⟩ := hrel
      clear HC
      by_cases hlt : k < n
      · have q2 := hF.2.cell hlt
        have q3 := hF.2.frozen k
        have HF : Hid (CompAt w B n (fun i => if i < k + 1 then -1 else 0) (wr.setCell ⟨B, k, none⟩ (.int .i64 (-1)))) := fill_step hF
        clear hF
        go_wp2
        go_roundw
        case rel => exact ⟨k + 1, by omega, by go_num, HF.out⟩
        case measure => simp [intOf]; omega
      · have hkn : n = k := by omega
        subst hkn
        have HF : Hid (CompAt w B n (cc c grp 0 0) wr) := hF.congr (fun v hv => cc_start HP.out v hv)
        clear hF
        go_wp2
        go_loopw [8] (fun i wr => ∃ j : Nat, j ≤ GL ∧ i = .int .i64 j ∧ CompAt w B n (cc c grp j 0) wr) (fun i _ => GL - (intOf i).toNat)
        case atStart => exact ⟨0, Nat.zero_le _, rfl, HF.out⟩
        case round =>
          obtain ⟨j, hj, rfl, hC⟩ := hrel
          clear HF
          by_cases hjl : j < GL
          · have hjg : j < grp.length := by rw [← HGL.out]; exact hjl
            have hgB : g < B := by rw [← HB.out]; exact HA.out.lt
            have hrB : r j < B := by rw [← HB.out]; exact (HR.out j hjg).lt
            obtain ⟨L, hL⟩ : ∃ L, L = (grp.getD j []).length := ⟨_, rfl⟩
            have HLL : Hid (L = (grp.getD j []).length) := hL
            have hL0 : 0 < L := by rw [hL]; exact List.length_pos_iff.2 (HP.out.nd j hjg).2
            have hLe : ((L : Int) == 0) = false := by simp; omega
            have hLm : L ≤ 65536 := by rw [hL]; exact HL.out j hjg
            have r0 : w.cell? ⟨g, j, none⟩ = some (.slice (some ⟨r j, 0, none⟩) L (rc j)) := by rw [hL]; exact HA.out.cell hjg
            have R0 : Hid (w.cell? ⟨g, j, none⟩ = some (.slice (some ⟨r j, 0, none⟩) L (rc j))) := r0
            have r1 : wr.cell? ⟨g, j, none⟩ = some (.slice (some ⟨r j, 0, none⟩) L (rc j)) := by rw [hC.1.cell hgB]; exact r0
            have HC : Hid (CompAt w B n (cc c grp j 0) wr) := hC
            have Hjg : Hid (j < grp.length) := hjg
            clear hC hL r0 hjg
            go_wp2
            clear r1
            go_loopw [9] (fun i wr => ∃ k : Nat, k ≤ L ∧ i = .int .i64 k ∧ CompAt w B n (cc c grp j k) wr) (fun i _ => L - (intOf i).toNat)
            case atStart => exact ⟨0, Nat.zero_le _, rfl, HC.out⟩
            case round =>
              obtain ⟨k, hkL, rfl, hC⟩ := hrel
              clear HC
              have r1 : wr.cell? ⟨g, j, none⟩ = some (.slice (some ⟨r j, 0, none⟩) L (rc j)) := by rw [hC.1.cell hgB]; exact R0.out
              by_cases hkl : k < L
              · obtain ⟨x, hx⟩ : ∃ x, x = (grp.getD j []).getD k 0 := ⟨_, rfl⟩
                obtain ⟨hxn, hxc, hxs⟩ := cc_step HP.out Hjg.out (by rw [← HLL.out]; exact hkl) hx
                have r2 : wr.cell? ⟨r j, k, none⟩ = some (.int .i64 (x : Nat)) := by
                  rw [hC.1.cell hrB, hx]; exact (HR.out j Hjg.out).cell (by rw [← HLL.out]; exact hkl)
                have q2 : wr.cell? ⟨B, x, none⟩ = some (.int .i64 (-1)) := by rw [hC.2.cell hxn, hxc]
                have q3 := hC.2.frozen x
                have HN : Hid (CompAt w B n (cc c grp j (k + 1)) (wr.setCell ⟨B, x, none⟩ (.int .i64 (j : Nat)))) := (hC.set x j).congr (fun v _ => hxs v)
                clear hC hx hxc hxs
                go_wp2
                go_roundw
                case rel => exact ⟨k + 1, by omega, by go_num, HN.out⟩
                case measure => simp [intOf]; omega
              · have hke : L = k := by omega
                have HN : Hid (CompAt w B n (cc c grp (j + 1) 0) wr) := hC.congr (fun v _ => by rw [← hke, HLL.out]; exact cc_next HP.out Hjg.out v)
                subst hke
                clear hC
                go_wp2
                go_roundw
                case rel => exact ⟨j + 1, by omega, by go_num, HN.out⟩
                case measure => simp [intOf]; omega
          · have hje : GL = j := by omega
            subst hje
            have HC : Hid (CompAt w B n c wr) := hC.congr (fun v hv => by rw [HGL.out]; exact cc_end HP.out hv)
            clear hC
            go_wp2
            go_loop [11] (fun i => ∃ k : Nat, k ≤ n ∧ i = .int .i64 k) (fun i => n - (intOf i).toNat)
            case atStart => exact ⟨0, Nat.zero_le _, rfl⟩
            case round =>
              obtain ⟨k, hk2, rfl⟩ := hrel
              by_cases hkl : k < n
              · have q2 := HC.out.2.cell hkl
                have q4 : (c k == -1) = false := by have := HP.out.all k hkl; simp; omega
                go_wp2
                go_round
                case rel => exact ⟨k + 1, by omega, by go_num⟩
                case measure => simp [intOf]; omega
              · go_wp2
                go_ret2
                exact ⟨by rw [HB.out]; rfl, by rw [HB.out]; exact HC.out⟩
end Go.Proofs.Qxb6604011a.Scc
