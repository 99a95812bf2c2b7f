/-
  The proof of 'Rows.FnCutExponentMatchesSuffixModelSaid': the guide's frame, the walk filled in.
-/
import Derived.Test.Qxb6603934aRows
import Derived.WalkKit
import Derived.ProofKit
import Derived.OpenShut
import Derived.ShutString
import Derived.PlainAid
import Derived.Handy
import Derived.Test.Qxb6603934aCutWalks
import Derived.Test.Qxb6603934aCutModel
namespace Go.Proofs.Qxb6603934a.fnCutExponentMatchesSuffixModel
open Go.ChangeShapes Go.WideShapes Go.ChangeAt Go.RowKit
open Go.ChangeMaps (open_string shut_string)
set_option linter.unusedVariables false      -- a walk need not use every 'w<i>' (that an integer argument fits its kind)

theorem own : ownKnob Try.prog.godebug = none := by kernel_rfl

/-! ### STEP 1: THE WALK: the Go text returns true. -/
theorem zzcut (s : ByteArray) (w : World) (hs : s.size ≤ maxLen) (h20 : s.size ≤ 2097152) : Calls Try.prog 9 #[.string s] w (Cut.GaveC s w) := by
  have H : Hid (Calls Try.prog 24 #[.string s] w (Cut.GaveC s w)) := Cut.cut_any s w hs h20
  go_enter Try.func9, Try.ntmps9
  go_wp2_with fail
  refine H.out.mono ?_
  rintro e w' ⟨k, v, he, hr, rfl⟩
  obtain ⟨x, hx⟩ : ∃ x, x = s.extract 0 k := ⟨_, rfl⟩
  rw [← hx] at he
  subst he
  have HX : Hid (x = s.extract 0 k) := hx
  clear hx
  go_wp2
  go_ret2
  exact ⟨k, v, by rw [← HX.out]; rfl, hr, rfl⟩

theorem bytes8 (s : ByteArray) (w : World) (hs : s.size ≤ maxLen) (h20 : s.size ≤ 1048576) :
    Calls Try.prog 8 #[.string s] w fun e w' => e = .returned (.bool true) ∧ w' = w := by
  unfold maxLen at hs
  go_enter Try.func8, Try.ntmps8
  go_wp2
  go_ret
  exact ⟨rfl, rfl⟩

set_option maxHeartbeats 400000 in
theorem both (s : ByteArray) (w : World) (hs : s.size ≤ maxLen) (h20 : s.size ≤ 1048576) :
    Calls Try.prog 3 #[.string s] w fun e w' => e = .returned (.bool true) ∧ Grown w w' := by
  have HA : Hid (Calls Try.prog 9 #[.string s] w (Cut.GaveC s w)) := zzcut s w hs (by omega)
  have HB : Hid (Calls Try.prog 10 #[.string s] w (Cut.GaveC s w)) := Cut.model_any s w hs h20
  have h8 : Hid (Calls Try.prog 8 #[.string s] w fun e w' => e = .returned (.bool true) ∧ w' = w) := bytes8 s w hs h20
  unfold maxLen at hs
  go_enter Try.func3, Try.ntmps3
  go_wp2_with fail
  refine h8.out.mono ?_
  rintro e w1 ⟨rfl, rfl⟩
  go_wp2_with fail
  refine HA.out.mono ?_
  rintro e w2 ⟨k, v, he, hr, rfl⟩
  obtain ⟨x, hx⟩ : ∃ x, x = s.extract 0 k := ⟨_, rfl⟩
  rw [← hx] at he
  subst he
  have HX : Hid (x = s.extract 0 k) := hx
  clear hx
  go_wp2_with fail
  refine HB.out.mono ?_
  rintro e w3 ⟨k', v', he, hr', rfl⟩
  obtain ⟨rfl, rfl⟩ := Cut.cutR_unique hr hr'
  rw [← HX.out] at he
  subst he
  go_wp2
  go_ret
  exact ⟨rfl, Grown.refl _⟩

set_option maxHeartbeats 400000 in
theorem long (s : ByteArray) (w : World) (hs : s.size ≤ maxLen) (h20 : ¬ s.size ≤ 1048576) :
    Calls Try.prog 3 #[.string s] w fun e w' => e = .returned (.bool true) ∧ Grown w w' := by
  unfold maxLen at hs
  go_enter Try.func3, Try.ntmps3
  go_wp2
  go_ret
  exact ⟨rfl, Grown.refl _⟩

theorem walk (a0 : ByteArray) (w0 : a0.size ≤ maxLen) (w : World) :
    Calls Try.prog 3 #[.string a0] w fun e w' => e = .returned (.bool true) ∧ Grown w w' := by
  by_cases h20 : a0.size ≤ 1048576
  · exact both a0 w w0 h20
  · exact long a0 w w0 h20

/-! ### THE ROW's STEP: WRITTEN OUT: LEAVE IT -/
set_option maxRecDepth 100000 in
theorem lifted (os : Os) (started : os.Started) (H : Type) (enc : TypeId × Value → H) :
    ReturnsInHanded {} Try.checked os 3 .any (Rows.fnCutExponentMatchesSuffixModelSpec.pre6 enc Try.prog Try.f3 Rows.fnCutExponentMatchesSuffixModelRow.domain false) (Rows.fnCutExponentMatchesSuffixModelSpec.post enc Try.prog Try.f3 false true false false) := by
  refine returnsInHanded_of_change (C := Try.checked) own started (by kernel_rfl) Try.func3
    (ChangeSpec.witness6 (enc := enc) (C := Try.checked) false ⟨#[], #[.string ByteArray.empty], []⟩ 8 (by kernel_rfl) (by kernel_rfl) (by kernel_rfl) (by kernel_rfl)) ?_
  intro W base args ds gs before hval0 hW hcnd _
  have hval : ∀ (j : Nat) t v, Try.f3.params[j]? = some t → args[j]? = some v → Value.okWide Try.prog W .any base t v := hval0
  have hW' := hW
  obtain ⟨p, q, hA0, hV, rfl, hfz, hnd⟩ := hW
  have hA : DataW.TrodAll enc Try.prog W 0 (fun _ => true) true Try.f3.params.toList args.toList ds p := hA0
  rw [Try.params3] at hA hval
  obtain ⟨v0, vs0, d0, ds0, p0, q0, hargs, rfl, rfl, h0, r0⟩ := trodAll_cons hA
  obtain ⟨rfl, rfl, rfl⟩ := trodAll_nil r0
  obtain rfl : args = #[v0] := by cases args; simp_all
  obtain ⟨rfl, rfl⟩ := trodVars_none hV
  obtain ⟨a0, rfl, rfl, rfl, w0⟩ := open_string Try.underlying9 (hval 0 9 v0 rfl rfl) h0
  clear hA0 hval0
  simp only [List.append_nil] at hW'
  refine (walk a0 w0 W).mono fun e W' ⟨he, hg⟩ => ?_
  subst he
  exact ⟨_, rfl, post_of_same (pa := []) (pv := []) hW' (fun _ _ _ => (trodAll_cons_mk (shut_bool Try.underlying4 _) trodAll_mk0)) (fun sp _ => (trodAll_cons_mk (shut_string Try.underlying9 w0) trodAll_mk0)) (fun _ _ => rfl) rfl
    (hg.frame _) hg.2.1 (ok_one (by kernel_rfl) rfl (okWide_bool_mk Try.underlying4 _))⟩

theorem over : Rows.fnCutExponentMatchesSuffixModelRow.holds Try.pinned (OpenSpec.ofChange Rows.fnCutExponentMatchesSuffixModelSpec) :=
  OpenClaim.holds_of_wide 3 Try.f3 rfl rfl rfl rfl rfl rfl rfl ⟨rfl, rfl, rfl, rfl, rfl⟩ rfl rfl rfl rfl rfl (by kernel_rfl) Try.func3 (by kernel_rfl)
    (of_decide_eq_true (by kernel_rfl)) (by unfold Func.isWrapper; first | (rw [if_pos (by decide +kernel)]; kernel_rfl) | (rw [if_neg (by decide +kernel)]; exact ⟨rfl, rfl⟩))
    (fun os started H enc _ => lifted os started H enc)

/-- ████ THE STATEMENT ████ -/
theorem proved : Rows.FnCutExponentMatchesSuffixModelSaid :=
  over
#print axioms proved
end Go.Proofs.Qxb6603934a.fnCutExponentMatchesSuffixModel
