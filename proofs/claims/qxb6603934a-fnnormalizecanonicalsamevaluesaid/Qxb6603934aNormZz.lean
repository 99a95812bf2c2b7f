import Derived.Test.Qxb6603934aNormMainB
namespace Go.Proofs.Qxb6603934a.Norm
open Go.RowKit Go.Deep

theorem carry_zero (w : World) (B cap : Nat) (ao : Option Addr) (hv : w.cell? ⟨B, 0, none⟩ = some (.slice ao 0 cap)) :
    Calls Try.prog 29 #[.pointer (some ⟨B, 0, none⟩)] w fun e w' => e = .returned (.int .i64 0) ∧ w' = w := by
  go_enter Try.func29, Try.ntmps29
  go_wp2
  refine wp_loop_rounds 1 ?_
  rw [rounds_succ]
  go_wp2
  go_ret
  exact ⟨rfl, rfl⟩

theorem nr_zero (f : Nat → Int) : NR f 0 0 f 0 0 := nr_none (by omega) rfl (Or.inl (fun i h => absurd h (by omega))) (fun i _ h => absurd h (by omega))

set_option maxHeartbeats 1000000 in
theorem norm_zero (w : World) (B g cap : Nat) (ao : Option Addr) (f : Nat → Int) (low pend : Int) (hao : ao = none ∧ cap = 0 ∨ ao = some ⟨g, 0, none⟩) (hW : Wide w B (.slice ao 0 cap) low pend)
    (hlow : -2147483648 ≤ low ∧ low ≤ 2147483648) (hp : (pend == 0) = false) :
    Calls Try.prog 27 #[.pointer (some ⟨B, 0, none⟩)] w (Normed B g 0 f low w) := by
  have c2 := hW.cell2
  have fz := hW.frozen 2
  obtain ⟨W1, hW1⟩ : ∃ W1, W1 = w.setCell ⟨B, 2, none⟩ (.int .i64 0) := ⟨_, rfl⟩
  have W1W : Wide W1 B (.slice ao 0 cap) low 0 := by rw [hW1]; exact hW.set2 0
  have H29 : Hid (Calls Try.prog 29 #[.pointer (some ⟨B, 0, none⟩)] W1 fun e w' => e = .returned (.int .i64 0) ∧ w' = W1) := carry_zero W1 B cap ao W1W.cell0
  have HK1 : Hid (Kept B g w W1) := by rw [hW1]; exact (Kept.refl B g w).setB 2 _
  have HW1 : Hid (W1 = w.setCell ⟨B, 2, none⟩ (.int .i64 0)) := hW1
  have HWA : Hid (Wide W1 B (.slice ao 0 cap) low 0) := W1W
  have r0 := W1W.cell0
  have r1 := W1W.cell1
  have r2 := W1W.frozen 0
  have r3 := W1W.frozen 1
  clear hW1 W1W
  rcases hao with ⟨rfl, rfl⟩ | rfl
  all_goals
    go_enter Try.func27, Try.ntmps27
    go_wp2_with fail
    rw [← HW1.out]
    refine H29.out.mono ?_
    rintro e w2 ⟨rfl, hw2⟩
    subst hw2
    go_wp2_with fail
    refine wp_loop_rounds 1 ?_
    rw [rounds_succ]
    go_wp2
    refine wp_loop_rounds 1 ?_
    rw [rounds_succ]
    go_wp2
    refine wp_loop_rounds 1 ?_
    rw [rounds_succ]
    go_wp2
    go_region
    go_wp2
    go_end0
    exact ⟨rfl, 0, f, 0, 0, nr_zero f, ((((HK1.out.setB 0 _).setB 1 _).setB 0 _).setB 1 _).drew, Or.inl ⟨rfl, ((((HWA.out.set0 _).set1 _).set0 _).set1 _).drew⟩⟩

theorem norm_idle (w : World) (B : Nat) (v : Value) (low : Int) (hW : Wide w B v low 0) :
    Calls Try.prog 27 #[.pointer (some ⟨B, 0, none⟩)] w fun e w' => e = .returned (.tuple #[]) ∧ w' = w := by
  have c2 := hW.cell2
  go_enter Try.func27, Try.ntmps27
  go_wp2
  refine bodyPost_ret (results_none rfl _ _ _) rfl ?_
  exact ⟨rfl, rfl⟩

/-- What ZZnormalize hands back. -/
def GaveN (g n : Nat) (f : Nat → Int) (low : Int) (w : World) (e : Ending) (w' : World) : Prop :=
  ∃ N F3 F L, NR f n N F3 F L ∧ Kept w.heap.size g w w' ∧
    ((F = L ∧ e = .returned (.tuple #[.slice none 0 0, .int .i64 0, .int .i64 0])) ∨
     (F < L ∧ ∃ g' cap', (g' = g ∨ w.heap.size < g') ∧ Arr w' g' 2 cap' N (fun i => .int .i64 (F3 i)) ∧ e = .returned (.tuple #[.slice (some ⟨g', F, none⟩) (L - F) (cap' - F), .int .i64 (low + F), .int .i64 0])))

theorem kept_alloc {w w' : World} {g : Nat} {o : Obj} (h : Kept w.heap.size g (w.alloc o) w') : Kept w.heap.size g w w' :=
  ⟨h.os, h.tape, h.output, by have := h.size; rw [nblk_alloc] at this; omega, fun k hk h1 h2 => by
    rw [h.block k (by rw [nblk_alloc]; omega) h1 h2, blk_alloc_lt _ _ _ hk]⟩
theorem kept_drewN {w w' : World} {B g : Nat} (h : Kept B g w w') (m : Nat) : Kept B g w (w'.drewN m) := ⟨h.os, h.tape, h.output, h.size, h.block⟩
theorem wide_new (w : World) (v : Value) (low pend : Int) (ow : Value) : Wide (w.alloc (.cells #[v, .int .i64 low, .int .i64 pend, ow] 42)) w.heap.size v low pend := ⟨ow, blk_alloc_new _ _⟩

set_option maxHeartbeats 400000 in
theorem zz_of (w : World) (v : Value) (g n : Nat) (f : Nat → Int) (low pend : Int) (hv : ∃ ao k c, v = .slice ao k c)
    (h : ∀ o, Wide (w.alloc o) w.heap.size v low pend → Calls Try.prog 27 #[.pointer (some ⟨w.heap.size, 0, none⟩)] (w.alloc o) (Normed w.heap.size g n f low (w.alloc o))) :
    Calls Try.prog 19 #[v, .int .i64 low, .int .i64 pend] w (GaveN g n f low w) := by
  have H : Hid (∀ o, Wide (w.alloc o) w.heap.size v low pend → Calls Try.prog 27 #[.pointer (some ⟨w.heap.size, 0, none⟩)] (w.alloc o) (Normed w.heap.size g n f low (w.alloc o))) := h
  clear h
  obtain ⟨ao, k, c, rfl⟩ := hv
  go_enter Try.func19, Try.ntmps19
  go_wp2_with fail
  refine (H.out _ (wide_new _ _ _ _ _)).mono ?_
  rintro e w1 ⟨rfl, N, F3, F, L, hNR, hK, hres⟩
  rcases hres with ⟨hFL, hW⟩ | ⟨hFL, g', cap', hg, hA, hW⟩
  · have r0 := hW.cell0
    have r1 := hW.cell1
    have r2 := hW.cell2
    have HK : Hid (Kept w.heap.size g w w1) := kept_alloc hK
    clear hK hW
    go_wp2
    go_quiet (fail)
    go_wp2
    go_ret3
    exact ⟨N, F3, F, L, hNR, kept_drewN HK.out _, Or.inl ⟨hFL, rfl⟩⟩
  · have r0 := hW.cell0
    have r1 := hW.cell1
    have r2 := hW.cell2
    have HK : Hid (Kept w.heap.size g w w1) := kept_alloc hK
    have HA : Hid (Arr w1 g' 2 cap' N (fun i => .int .i64 (F3 i))) := hA
    have Hg : Hid (g' = g ∨ w.heap.size < g') := by
      rcases hg with h | h
      · exact Or.inl h
      · right; rw [nblk_alloc] at h; omega
    clear hK hW hA hg
    go_wp2
    go_quiet (fail)
    go_wp2
    go_ret3
    exact ⟨N, F3, F, L, hNR, kept_drewN HK.out _, Or.inr ⟨hFL, g', cap', Hg.out, HA.out, rfl⟩⟩

/-- ZZnormalize upon limbs of the call's own, something pending. -/
theorem zz_some (w : World) (g cap n : Nat) (f : Nat → Int) (low pend : Int) (hA : Arr w g 2 cap n (fun i => .int .i64 (f i))) (hcap : cap ≤ maxLen)
    (hf : ∀ i, i < n → -4611686018427387904 ≤ f i ∧ f i ≤ 4611686018427387904) (hn : n ≤ 200000) (hlow : -2147483648 ≤ low ∧ low ≤ 2147483648) (hp : (pend == 0) = false) :
    Calls Try.prog 19 #[.slice (some ⟨g, 0, none⟩) n cap, .int .i64 low, .int .i64 pend] w (GaveN g n f low w) := by
  refine zz_of w _ g n f low pend ⟨_, _, _, rfl⟩ (fun o hW => ?_)
  by_cases h0 : 0 < n
  · by_cases hc : 0 ≤ cy f n
    · exact norm_pos _ _ g cap n f low pend hW (hA.alloc o) hcap hf h0 hn hlow hp hc
    · exact norm_neg _ _ g cap n f low pend hW (hA.alloc o) hcap hf h0 hn hlow hp (by omega)
  · have : n = 0 := by omega
    subst this
    exact norm_zero _ _ g cap _ f low pend (Or.inr rfl) hW hlow hp

theorem zz_nil (w : World) (g : Nat) (f : Nat → Int) (low pend : Int) (hlow : -2147483648 ≤ low ∧ low ≤ 2147483648) (hp : (pend == 0) = false) :
    Calls Try.prog 19 #[.slice none 0 0, .int .i64 low, .int .i64 pend] w (GaveN g 0 f low w) :=
  zz_of w _ g 0 f low pend ⟨_, _, _, rfl⟩ (fun _ hW => norm_zero _ _ g 0 none f low pend (Or.inl ⟨rfl, rfl⟩) hW hlow hp)

set_option maxHeartbeats 400000 in
/-- With nothing pending it hands back what it was handed. -/
theorem zz_idle (w : World) (v : Value) (low : Int) (hv : ∃ ao k c, v = .slice ao k c) :
    Calls Try.prog 19 #[v, .int .i64 low, .int .i64 0] w fun e w' => e = .returned (.tuple #[v, .int .i64 low, .int .i64 0]) ∧ Below w.heap.size w w' := by
  have H : Hid (∀ o, Wide (w.alloc o) w.heap.size v low 0 → Calls Try.prog 27 #[.pointer (some ⟨w.heap.size, 0, none⟩)] (w.alloc o) fun e w' => e = .returned (.tuple #[]) ∧ w' = w.alloc o) :=
    fun _ hW => norm_idle _ _ v low hW
  obtain ⟨ao, k, c, rfl⟩ := hv
  go_enter Try.func19, Try.ntmps19
  go_wp2_with fail
  refine (H.out _ (wide_new _ _ _ _ _)).mono ?_
  rintro e w1 ⟨rfl, hw1⟩
  have hW := wide_new w (.slice ao k c) low 0 (.pointer none)
  have r0 := hW.cell0
  have r1 := hW.cell1
  have r2 := hW.cell2
  have HB : Hid (Below w.heap.size w (w.alloc (.cells #[.slice ao k c, .int .i64 low, .int .i64 0, .pointer none] 42))) := (Below.refl _ _).alloc (Nat.le_refl _) _
  rw [← hw1] at r0 r1 r2 HB
  have Hw : Hid (w1 = w.alloc (.cells #[.slice ao k c, .int .i64 low, .int .i64 0, .pointer none] 42)) := hw1
  clear hw1 hW
  go_wp2
  go_quiet (fail)
  go_wp2
  go_ret3
  exact ⟨rfl, ⟨HB.out.os, HB.out.tape, HB.out.output, HB.out.size, HB.out.block⟩⟩
end Go.Proofs.Qxb6603934a.Norm
