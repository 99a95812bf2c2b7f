/-
  The proof of 'Rows.FnStronglyConnectedIsCondensationSaid': the frame, typed by hand after the other seats' frames, the walk filled in.
-/
import Derived.Test.Qxb6604011aRows
import Derived.WalkKit
import Derived.ProofKit
import Derived.OpenShut
import Derived.ShutString
import Derived.ChangeOld
import Derived.Below
import Derived.Handy
import Derived.Deep.Matrix
import Derived.Test.Qxb6604011aCondWalk
namespace Go.Proofs.Qxb6604011a.fnStronglyConnectedIsCondensation
open Go.ChangeShapes Go.WideShapes Go.ChangeAt Go.RowKit
open Go.Proofs.Qxb6604011a.Scc Go.Deep
set_option linter.unusedVariables false

theorem own : ownKnob Try.prog.godebug = none := by kernel_rfl
theorem laidOut : laidOutB Try.prog = true := by kernel_rfl

theorem at_plain {w : World} {a : Addr} {x : Value} (h : w.cell? (a.add 0) = some x) : ∃ b off, a = ⟨b, off, none⟩ := by
  obtain ⟨b, off, spot⟩ := a
  have hspot : spot = none := by simpa [Addr.add] using World.cell?_spot h
  subst hspot
  exact ⟨b, off, rfl⟩

set_option maxRecDepth 100000 in
theorem lifted (os : Os) (started : os.Started) (H : Type) (enc : TypeId × Value → H) :
    ReturnsInHanded {} Try.checked os 3 .any (Rows.fnStronglyConnectedIsCondensationSpec.pre6 enc Try.prog Try.f3 Rows.fnStronglyConnectedIsCondensationRow.domain false) (Rows.fnStronglyConnectedIsCondensationSpec.post enc Try.prog Try.f3 false true false false) := by
  refine returnsInHanded_of_change (C := Try.checked) own started (by kernel_rfl) Try.func3
    (ChangeSpec.witness6 (enc := enc) (C := Try.checked) false ⟨#[], #[.slice none 0 0], []⟩ 8 (by kernel_rfl) (by kernel_rfl) (by kernel_rfl) (by kernel_rfl)) ?_
  intro W base args ds gs before hval0 hW hcnd _
  have hval : ∀ (j : Nat) t v, Try.f3.params[j]? = some t → args[j]? = some v → Value.okWide Try.prog W .any base t v := hval0
  have hW' := hW
  obtain ⟨p, q, hA0, hV, rfl, hfz, hnd⟩ := hW
  have hA : DataW.TrodAll enc Try.prog W 0 (fun _ => true) true Try.f3.params.toList args.toList ds p := hA0
  rw [Try.params3] at hA hval
  obtain ⟨v0, vs0, d0, ds0, p0, q0, hargs, rfl, rfl, h0, r0⟩ := trodAll_cons hA
  obtain ⟨rfl, rfl, rfl⟩ := trodAll_nil r0
  obtain rfl : args = #[v0] := by cases args; simp_all
  obtain ⟨rfl, rfl⟩ := trodVars_none hV
  obtain ⟨a0, len0, cap0, rfl⟩ := okWide_slice Try.underlying22 (hval 0 22 v0 rfl rfl)
  have k0 := h0
  have lt0 : ∀ x ∈ p0, x.block < W.heap.size := by obtain ⟨m, hm⟩ := k0; exact DataW.trod_lt m _ _ _ hm
  obtain ⟨deg, tz, w0⟩ : ∃ deg tz, RowsAt W (.slice a0 len0 cap0) len0 deg tz := by
    obtain ⟨fuel, hf⟩ := h0
    rcases open_int_rows Try.underlying22 Try.underlying24 Try.underlying3 (by kernel_rfl) (by kernel_rfl) hf with ⟨hcs, _⟩ | ⟨a, len, cap, A, L, C, Z, hcs, _, hl, hm, _, hx⟩
    · simp [Value.cells] at hcs
      obtain ⟨rfl, rfl, rfl⟩ := hcs
      exact ⟨fun _ => 0, fun _ _ => 0, none, 0, rfl, fun _ => ⟨rfl, rfl⟩, fun h => absurd h (by omega)⟩
    · simp [Value.cells] at hcs
      obtain ⟨rfl, rfl, rfl⟩ := hcs
      refine ⟨L, fun r c => (Z r).getD c 0, some a, _, rfl, fun h => by simp at h, fun hp => ?_⟩
      obtain ⟨b, off, rfl⟩ := at_plain (hx 0 (by omega)).1
      refine ⟨b, off, rfl, fun i hi => ?_⟩
      obtain ⟨h1, h2, h3, h4, h5, h6, h7⟩ := hx i (by omega)
      refine ⟨A i, C i, by rw [← Go.WideShapes.add_plain]; exact h1, fun hn => ⟨h6 hn, by have := h6 hn; omega⟩, fun hd => ?_⟩
      cases hAi : A i with
      | none => have := h6 hAi; omega
      | some a' =>
        obtain ⟨_, hc⟩ := h7 a' hAi
        obtain ⟨rb, rf, rfl⟩ := at_plain (hc 0 (by omega))
        exact ⟨rb, rf, rfl, fun k hk => by rw [← Go.WideShapes.add_plain]; exact hc k (by omega)⟩
  clear hA0 hval0
  refine (cond3 W (.slice a0 len0 cap0) len0 deg tz w0).mono fun e W' ⟨he, bel⟩ => ?_
  subst he
  exact ⟨_, rfl, _, _, _, [], _, [], hW', trodAll_mk1 (shut_bool Try.underlying4 _), (trodAll_cons_mk (Below.trod laidOut (by kernel_rfl) (of_decide_eq_true (by kernel_rfl)) k0 bel lt0) trodAll_mk0), rfl, bel.frame _, fun h => by cases h⟩

theorem over : Rows.fnStronglyConnectedIsCondensationRow.holds Try.pinned (OpenSpec.ofChange Rows.fnStronglyConnectedIsCondensationSpec) :=
  OpenClaim.holds_of_wide 3 Try.f3 rfl rfl rfl rfl rfl rfl rfl ⟨rfl, rfl, rfl, rfl, rfl⟩ rfl rfl rfl rfl rfl (by kernel_rfl) Try.func3 (by kernel_rfl)
    (of_decide_eq_true (by kernel_rfl)) (by unfold Func.isWrapper; first | (rw [if_pos (by decide +kernel)]; kernel_rfl) | (rw [if_neg (by decide +kernel)]; exact ⟨rfl, rfl⟩))
    (fun os started H enc _ => lifted os started H enc)

/-- THE STATEMENT -/
theorem proved : Rows.FnStronglyConnectedIsCondensationSaid := over
#print axioms proved
end Go.Proofs.Qxb6604011a.fnStronglyConnectedIsCondensation
