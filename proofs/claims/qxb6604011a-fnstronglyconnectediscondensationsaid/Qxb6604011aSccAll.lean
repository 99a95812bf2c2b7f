import Derived.Test.Qxb6604011aSccMain
namespace Go.Proofs.Qxb6604011a.Scc
open Go.RowKit Go.Deep

def SccPost (w : World) (n : Nat) (deg : Nat → Nat) (tg : Nat → Nat → Nat) (e : Ending) (w' : World) : Prop :=
  ∃ gv, e = .returned gv ∧ SccOut w.heap.size n deg tg gv w' ∧ Below w.heap.size w w'

theorem out_nil (B : Nat) (deg : Nat → Nat) (tg : Nat → Nat → Nat) (w' : World) : SccOut B 0 deg tg (.slice none 0 0) w' :=
  ⟨fun _ => -1, [], Or.inl ⟨rfl, rfl⟩, fun v hv => absurd hv (by omega), fun v hv => absurd hv (by simp), fun v _ => rfl, fun j v hj => absurd hj (by simp), fun j hj => absurd hj (by simp), fun v hv => absurd hv (by simp), fun u v hu => absurd hu (by simp)⟩

set_option maxHeartbeats 800000 in
set_option maxRecDepth 100000 in
theorem scc_zero (w : World) (ao : Option Addr) (cap : Nat) (deg : Nat → Nat) (tg : Nat → Nat → Nat) : Calls Try.prog 14 #[.slice ao 0 cap] w (SccPost w 0 deg tg) := by
  have hmk := run_make_row' (P := Try.prog) 24 3 (.int .i64 0) 8 Try.underlying24 info3 rfl .i64 .i64 0 (by omega) (by omega)
  have hmb := run_make_row' (P := Try.prog) 30 4 (.bool false) 1 Try.underlying30 info4 rfl .i64 .i64 0 (by omega) (by omega)
  rw [show ((0 : Nat) : Int) = 0 from rfl] at hmk hmb
  go_enter Try.func14, Try.ntmps14
  go_wp2
  refine wp_loop_rounds 1 ?_
  rw [rounds_succ]
  go_wp2
  refine wp_loop_rounds 1 ?_
  rw [rounds_succ]
  go_wp2
  go_ret
  refine ⟨_, rfl, out_nil _ _ _ _, ?_⟩
  repeat' first | exact Below.refl _ _ | refine Below.alloc ?_ (by first | exact Nat.le_refl _ | (simp only [nblk_alloc]; omega)) _

theorem scc_all (w : World) (v : Value) (n : Nat) (deg : Nat → Nat) (tg : Nat → Nat → Nat) (hg : GraphAt w v n deg tg) (hn : n ≤ 65536) (ht : ∀ i k, i < n → k < deg i → tg i k < n) (hdeg : ∀ i, i < n → deg i ≤ 1048576) :
    Calls Try.prog 14 #[v] w (SccPost w n deg tg) := by
  by_cases h0 : 0 < n
  · exact scc_any w v n deg tg hg h0 hn ht hdeg
  · have e : n = 0 := by omega
    subst e
    obtain ⟨ao, cap, rfl, _⟩ := hg
    exact scc_zero w ao cap deg tg

set_option maxHeartbeats 400000 in
theorem zz_all (w : World) (v : Value) (n : Nat) (deg : Nat → Nat) (tg : Nat → Nat → Nat) (hg : GraphAt w v n deg tg) (hn : n ≤ 65536) (ht : ∀ i k, i < n → k < deg i → tg i k < n) (hdeg : ∀ i, i < n → deg i ≤ 1048576) :
    Calls Try.prog 8 #[v] w (SccPost w n deg tg) := by
  have h14 : Hid (Calls Try.prog 14 #[v] w (SccPost w n deg tg)) := scc_all w v n deg tg hg hn ht hdeg
  clear hg ht hdeg
  go_enter Try.func8, Try.ntmps8
  go_wp2_with fail
  refine h14.out.mono ?_
  rintro e w1 ⟨gv, rfl, h⟩
  have H : Hid (SccOut w.heap.size n deg tg gv w1 ∧ Below w.heap.size w w1) := h
  clear h
  go_wp2
  go_ret
  exact ⟨_, rfl, H.out⟩
end Go.Proofs.Qxb6604011a.Scc
