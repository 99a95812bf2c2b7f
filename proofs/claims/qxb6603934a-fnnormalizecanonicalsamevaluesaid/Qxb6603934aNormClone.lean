import Derived.Test.Qxb6603934aRows
import Derived.WalkKit
import Derived.WalkSpells
import Derived.WalkLawsBesides
import Derived.PlainAid
import Derived.Handy
import Derived.BigQuiet
import Derived.Deep.QuietTactic
import Derived.Lib.SliceRun
import Derived.Test.Qxb6603934aArr
namespace Go.Proofs.Qxb6603934a.Norm
open Go.RowKit Go.Deep

theorem info2 : (Try.prog.info? 2).map (fun i => (i.zero, i.size, i.bytes)) = some (some (.int .i64 0), 1, 8) := by kernel_rfl

theorem nil29 (w : World) (a : Option Addr) (n c n' c' : Nat) : (binOp .eql 29 (.slice a n c) (.slice none n' c')).run Try.prog w = .ok (.bool a.isNone) w :=
  Lib.run_eql_slice_nil w _ _ a n c n' c' Try.underlying29

theorem clone_nil (w : World) : Calls Try.prog 18 #[.slice none 0 0] w fun e w' => e = .returned (.slice none 0 0) ∧ w' = w := by
  have hnil := nil29
  go_enter Try.func18, Try.ntmps18
  go_wp2
  go_ret
  exact ⟨rfl, rfl⟩

/-- What cloning leaves: a new row, block B, that holds what was read; all else as it was. -/
def Cloned (B n : Nat) (f : Nat → Int) (w : World) (e : Ending) (w' : World) : Prop :=
  e = .returned (.slice (some ⟨B, 0, none⟩) n n) ∧ Arr w' B 2 n n (fun i => .int .i64 (f i)) ∧ Below B w w' ∧ w'.heap.size = B + 1

set_option maxHeartbeats 400000 in
theorem clone_some (w : World) (a : Addr) (n cap : Nat) (f : Nat → Int) (hr : Reads .i64 w (.slice (some a) n cap) n f) (hl : n ≤ 1048576) :
    Calls Try.prog 18 #[.slice (some a) n cap] w (Cloned w.heap.size n f w) := by
  have hu := hr.under
  obtain ⟨ao, cap', e, _, hc⟩ := hr
  simp only [Value.slice.injEq] at e
  obtain ⟨rfl, -, rfl⟩ := e
  have hnil := nil29
  have hmk := run_make_row' (P := Try.prog) 29 2 (.int .i64 0) 8 Try.underlying29 info2 rfl .i64 .i64 n (by omega) (by omega)
  by_cases h0 : 0 < n
  · obtain ⟨b, off, e, hcl⟩ := hc h0
    simp only [Option.some.injEq] at e
    subst e
    have hbB := hu b off n cap rfl h0
    clear hc hu
    have HC : Hid (∀ i, i < n → w.cell? ⟨b, off + i, none⟩ = some (.int .i64 (f i))) := hcl
    clear hcl
    go_enter Try.func18, Try.ntmps18
    go_wp2
    go_loopw [4] (fun i wr => ∃ k : Nat, k ≤ n ∧ i = .int .i64 k ∧ Arr wr w.heap.size 2 n n (fun j => if j < k then .int .i64 (f j) else .int .i64 0) ∧ Below w.heap.size w wr ∧ wr.heap.size = w.heap.size + 1) (fun i _ => n - (intOf i).toNat)
    case atStart => exact ⟨0, Nat.zero_le _, rfl, (Arr_made w (.int .i64 0) n 2).congr (fun i hi => by simp), (Below.refl _ _).alloc (Nat.le_refl _) _, by simp⟩
    case round =>
      obtain ⟨k, hk, rfl, hA, hB, hS⟩ := hrel
      by_cases hlt : k < n
      · have c1 : wr.cell? ⟨b, off + k, none⟩ = some (.int .i64 (f k)) := (hB.cell (p := ⟨b, off + k, none⟩) hbB).trans (HC.out k hlt)
        have c2 := hA.cell hlt
        have c3 := hA.frozen k
        have hA' := (hA.set k (.int .i64 (f k))).congr (g := fun j => if j < k + 1 then .int .i64 (f j) else .int .i64 0) (fun j hj => by
          by_cases e : j = k
          · subst e; simp
          · by_cases e2 : j < k
            · simp [e, e2, show j < k + 1 by omega]
            · simp [e, e2, show ¬ j < k + 1 by omega])
        have HA' : Hid (Arr (wr.setCell ⟨w.heap.size, k, none⟩ (.int .i64 (f k))) w.heap.size 2 n n (fun j => if j < k + 1 then .int .i64 (f j) else .int .i64 0)) := hA'
        have HB' : Hid (Below w.heap.size w (wr.setCell ⟨w.heap.size, k, none⟩ (.int .i64 (f k)))) := hB.setCell (Nat.le_refl _) _
        have HS' : Hid ((wr.setCell ⟨w.heap.size, k, none⟩ (.int .i64 (f k))).heap.size = w.heap.size + 1) := by
          show _ = _
          rw [nblk_setCell, hS]
        clear hA' hA hB
        go_wp2
        go_roundw
        case rel => exact ⟨k + 1, by omega, by go_num, HA'.out, HB'.out, HS'.out⟩
        case measure => simp [intOf]; omega
      · have hA' : Hid (Arr wr w.heap.size 2 n n (fun i => .int .i64 (f i))) := hA.congr (fun j hj => by simp [show j < k by omega])
        clear hA
        go_wp2
        go_ret
        exact ⟨rfl, hA'.out, hB, hS⟩
  · have hn : n = 0 := by omega
    subst hn
    have hmk0 : ∀ w : World, (Instr.makeSlice 29 (.int .i64 0) (.int .i64 0)).run Try.prog w = .ok (.slice (some ⟨w.heap.size, 0, none⟩) 0 0) (w.alloc (.cells (madeCells #[.int .i64 0] 0) 2)) := hmk
    clear hmk
    go_enter Try.func18, Try.ntmps18
    go_wp2
    refine wp_loop_rounds 1 ?_
    rw [rounds_succ]
    go_wp2
    go_ret
    exact ⟨rfl, (Arr_made w (.int .i64 0) 0 2).congr (fun i hi => absurd hi (by omega)), (Below.refl _ _).alloc (Nat.le_refl _) _, by simp⟩
end Go.Proofs.Qxb6603934a.Norm
