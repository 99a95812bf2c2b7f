/-
  The proof of 'Rows.FnIsPlainDecimalMatchesCountModelSaid': the guide's frame, the walk filled in.
-/
import Derived.Test.Qxb6602973aRows
import Derived.WalkKit
import Derived.ProofKit
import Derived.OpenShut
import Derived.ShutString
import Derived.PlainAid
import Derived.Handy
import Derived.Test.Qxb6602973aWalk16
import Derived.Test.Qxb6602973aWalk9
namespace Go.Proofs.Qxb6602973a.fnIsPlainDecimalMatchesCountModel
open Go.ChangeShapes Go.WideShapes Go.ChangeAt Go.RowKit
open Go.ChangeMaps (open_string shut_string)
set_option linter.unusedVariables false      -- a walk need not use every 'w<i>' (that an integer argument fits its kind)

theorem own : ownKnob Try.prog.godebug = none := by kernel_rfl

/-! ### STEP 1: THE WALK: the Go text returns true. -/
theorem zzplain (s : ByteArray) (mp : Int) (w : World) (f : Nat → Int) (n : Nat) (h : Calls Try.prog 16 #[.string s, .int .i64 mp] w (Dec.Gave f n mp w)) :
    Calls Try.prog 8 #[.string s, .int .i64 mp] w (Dec.Gave f n mp w) := by
  have H : Hid (Calls Try.prog 16 #[.string s, .int .i64 mp] w (Dec.Gave f n mp w)) := h
  clear h
  go_enter Try.func8, Try.ntmps8
  go_wp2_with fail
  refine H.out.mono ?_
  rintro e w' ⟨ok, rfl, hr, rfl⟩
  go_wp2
  go_ret
  exact ⟨ok, rfl, hr, rfl⟩

theorem bytes7 (s : ByteArray) (mp : Int) (w : World) (hs : s.size ≤ maxLen) (h20 : s.size ≤ 1048576) :
    Calls Try.prog 7 #[.string s, .int .i64 mp] w fun e w' => e = .returned (.bool true) ∧ w' = w := by
  unfold maxLen at hs
  go_enter Try.func7, Try.ntmps7
  go_wp2
  go_ret
  exact ⟨rfl, rfl⟩

set_option maxHeartbeats 400000 in
theorem both (s : ByteArray) (mp : Int) (w : World) (hs : s.size ≤ maxLen) (h20 : s.size ≤ 1048576) (f : Nat → Int) (n : Nat)
    (ha : Calls Try.prog 16 #[.string s, .int .i64 mp] w (Dec.Gave f n mp w)) (hb : Calls Try.prog 9 #[.string s, .int .i64 mp] w (Dec.Gave f n mp w)) :
    Calls Try.prog 3 #[.string s, .int .i64 mp] w fun e w' => e = .returned (.bool true) ∧ Grown w w' := by
  have HA : Hid (Calls Try.prog 8 #[.string s, .int .i64 mp] w (Dec.Gave f n mp w)) := zzplain s mp w f n ha
  have HB : Hid (Calls Try.prog 9 #[.string s, .int .i64 mp] w (Dec.Gave f n mp w)) := hb
  have h7 : Hid (Calls Try.prog 7 #[.string s, .int .i64 mp] w fun e w' => e = .returned (.bool true) ∧ w' = w) := bytes7 s mp w hs h20
  clear ha hb
  unfold maxLen at hs
  go_enter Try.func3, Try.ntmps3
  go_wp2_with fail
  refine h7.out.mono ?_
  rintro e w1 ⟨rfl, rfl⟩
  go_wp2_with fail
  refine HA.out.mono ?_
  rintro e w2 ⟨ok, rfl, hr, rfl⟩
  go_wp2_with fail
  refine HB.out.mono ?_
  rintro e w3 ⟨ok', rfl, hr', rfl⟩
  obtain rfl := Dec.Ans_unique hr hr'
  go_wp2
  go_ret
  exact ⟨by simp, Grown.refl _⟩

set_option maxHeartbeats 400000 in
theorem long (s : ByteArray) (mp : Int) (w : World) (hs : s.size ≤ maxLen) (h20 : ¬ s.size ≤ 1048576) :
    Calls Try.prog 3 #[.string s, .int .i64 mp] w fun e w' => e = .returned (.bool true) ∧ Grown w w' := by
  unfold maxLen at hs
  go_enter Try.func3, Try.ntmps3
  go_wp2
  go_ret
  exact ⟨rfl, Grown.refl _⟩

theorem walk (a0 : ByteArray) (a1 : Int) (w0 : a0.size ≤ maxLen) (w1 : (Lit.int .i64 a1).wf = true) (w : World) :
    Calls Try.prog 3 #[.string a0, .int .i64 a1] w fun e w' => e = .returned (.bool true) ∧ Grown w w' := by
  have hbd := bounds_i64 w1
  by_cases h20 : a0.size ≤ 1048576
  · have hc : Calls Try.prog 9 #[.string a0, .int .i64 a1] w (Dec.Gave (PlainAid.bt a0) a0.size a1 w) :=
      Dec.count_any a0 a1 w w0 h20 _ rfl (by show _ = _; unfold Dec.maxInt; rw [Bool.eq_iff_iff]; simp)
    by_cases hm : a1 = Dec.maxInt
    · exact both a0 a1 w w0 h20 _ _ (Dec.plain_max a0 a1 w w0 h20 hm (Dec.wraps hm)) hc
    · exact both a0 a1 w w0 h20 _ _ (Dec.plain_any a0 a1 w w0 h20 hbd.1 (by unfold Dec.maxInt at hm; omega)) hc
  · exact long a0 a1 w w0 h20

/-! ### THE ROW's STEP: WRITTEN OUT: LEAVE IT -/
set_option maxRecDepth 100000 in
theorem lifted (os : Os) (started : os.Started) (H : Type) (enc : TypeId × Value → H) :
    ReturnsInHanded {} Try.checked os 3 .any (Rows.fnIsPlainDecimalMatchesCountModelSpec.pre6 enc Try.prog Try.f3 Rows.fnIsPlainDecimalMatchesCountModelRow.domain false) (Rows.fnIsPlainDecimalMatchesCountModelSpec.post enc Try.prog Try.f3 false true false false) := by
  refine returnsInHanded_of_change (C := Try.checked) own started (by kernel_rfl) Try.func3
    (ChangeSpec.witness6 (enc := enc) (C := Try.checked) false ⟨#[], #[.string ByteArray.empty, .int .i64 0], []⟩ 8 (by kernel_rfl) (by kernel_rfl) (by kernel_rfl) (by kernel_rfl)) ?_
  intro W base args ds gs before hval0 hW hcnd _
  have hval : ∀ (j : Nat) t v, Try.f3.params[j]? = some t → args[j]? = some v → Value.okWide Try.prog W .any base t v := hval0
  have hW' := hW
  obtain ⟨p, q, hA0, hV, rfl, hfz, hnd⟩ := hW
  have hA : DataW.TrodAll enc Try.prog W 0 (fun _ => true) true Try.f3.params.toList args.toList ds p := hA0
  rw [Try.params3] at hA hval
  obtain ⟨v0, vs0, d0, ds0, p0, q0, hargs, rfl, rfl, h0, r0⟩ := trodAll_cons hA
  obtain ⟨v1, vs1, d1, ds1, p1, q1, rfl, rfl, rfl, h1, r1⟩ := trodAll_cons r0
  obtain ⟨rfl, rfl, rfl⟩ := trodAll_nil r1
  obtain rfl : args = #[v0, v1] := by cases args; simp_all
  obtain ⟨rfl, rfl⟩ := trodVars_none hV
  obtain ⟨a0, rfl, rfl, rfl, w0⟩ := open_string Try.underlying9 (hval 0 9 v0 rfl rfl) h0
  obtain ⟨a1, rfl, rfl, rfl, w1⟩ := open_int Try.underlying3 (hval 1 3 v1 rfl rfl) h1
  clear hA0 hval0
  simp only [List.append_nil] at hW'
  refine (walk a0 a1 w0 w1 W).mono fun e W' ⟨he, hg⟩ => ?_
  subst he
  exact ⟨_, rfl, post_of_same (pa := []) (pv := []) hW' (fun _ _ _ => (trodAll_cons_mk (shut_bool Try.underlying4 _) trodAll_mk0)) (fun sp _ => (trodAll_cons_mk (shut_string Try.underlying9 w0) (trodAll_cons_mk (shut_int Try.underlying3 w1) trodAll_mk0))) (fun _ _ => rfl) rfl
    (hg.frame _) hg.2.1 (ok_one (by kernel_rfl) rfl (okWide_bool_mk Try.underlying4 _))⟩

theorem over : Rows.fnIsPlainDecimalMatchesCountModelRow.holds Try.pinned (OpenSpec.ofChange Rows.fnIsPlainDecimalMatchesCountModelSpec) :=
  OpenClaim.holds_of_wide 3 Try.f3 rfl rfl rfl rfl rfl rfl rfl ⟨rfl, rfl, rfl, rfl, rfl⟩ rfl rfl rfl rfl rfl (by kernel_rfl) Try.func3 (by kernel_rfl)
    (of_decide_eq_true (by kernel_rfl)) (by unfold Func.isWrapper; first | (rw [if_pos (by decide +kernel)]; kernel_rfl) | (rw [if_neg (by decide +kernel)]; exact ⟨rfl, rfl⟩))
    (fun os started H enc _ => lifted os started H enc)

/-- ████ THE STATEMENT ████ -/
theorem proved : Rows.FnIsPlainDecimalMatchesCountModelSaid :=
  over
#print axioms proved
end Go.Proofs.Qxb6602973a.fnIsPlainDecimalMatchesCountModel
