/-
  The proof of 'Rows.FnCutExponentRoundTripSaid': the guide's frame, the walk filled in.
-/
import Derived.Test.Qxb6603934aRows
import Derived.WalkKit
import Derived.ProofKit
import Derived.OpenShut
import Derived.ShutString
import Derived.PlainAid
import Derived.Handy
import Derived.Test.Qxb6603934aCutWalks
import Derived.Test.Qxb6603934aCutTrip
namespace Go.Proofs.Qxb6603934a.fnCutExponentRoundTrip
open Go.ChangeShapes Go.WideShapes Go.ChangeAt Go.RowKit
open Go.ChangeMaps (open_string shut_string)
set_option linter.unusedVariables false      -- a walk need not use every 'w<i>' (that an integer argument fits its kind)

theorem own : ownKnob Try.prog.godebug = none := by kernel_rfl

/-! ### STEP 1: THE WALK: the Go text returns true. -/
theorem zzcut (s : ByteArray) (w : World) (hs : s.size ≤ maxLen) (h20 : s.size ≤ 2097152) : Calls Try.prog 9 #[.string s] w (Cut.GaveC s w) := by
  have H : Hid (Calls Try.prog 24 #[.string s] w (Cut.GaveC s w)) := Cut.cut_any s w hs h20
  go_enter Try.func9, Try.ntmps9
  go_wp2_with fail
  refine H.out.mono ?_
  rintro e w' ⟨k, v, he, hr, rfl⟩
  obtain ⟨x, hx⟩ : ∃ x, x = s.extract 0 k := ⟨_, rfl⟩
  rw [← hx] at he
  subst he
  have HX : Hid (x = s.extract 0 k) := hx
  clear hx
  go_wp2
  go_ret2
  exact ⟨k, v, by rw [← HX.out]; rfl, hr, rfl⟩

theorem bytes11 (s : ByteArray) (k : Int) (a b : Bool) (w : World) (hs : s.size ≤ maxLen) (h20 : s.size ≤ 1048576) :
    Calls Try.prog 11 #[.string s, .int .i32 k, .bool a, .bool b] w fun e w' => e = .returned (.bool true) ∧ w' = w := by
  unfold maxLen at hs
  go_enter Try.func11, Try.ntmps11
  go_wp2
  go_ret
  exact ⟨rfl, rfl⟩

set_option maxHeartbeats 400000 in
theorem good (s : ByteArray) (k : Int) (a b : Bool) (w : World) (hs : s.size ≤ maxLen) (h20 : s.size ≤ 1048576) (h1 : -999 ≤ k) (h2 : k ≤ 999) :
    Calls Try.prog 4 #[.string s, .int .i32 k, .bool a, .bool b] w fun e w' => e = .returned (.bool true) ∧ Grown w w' := by
  have h11 : Hid (Calls Try.prog 11 #[.string s, .int .i32 k, .bool a, .bool b] w fun e w' => e = .returned (.bool true) ∧ w' = w) := bytes11 s k a b w hs h20
  have h12 : Hid (Calls Try.prog 12 #[.int .i32 k, .bool a, .bool b] w (Cut.Wrote k a b w)) := Cut.text_any k a b w h1 h2
  have hC : Hid (Cut.CutR (PlainAid.bt (s ++ strOfNums (Cut.expText k a b))) (s ++ strOfNums (Cut.expText k a b)).size s.size k) := Cut.trip s k a b h1 h2
  have hB : Hid ((s ++ strOfNums (Cut.expText k a b)).extract 0 s.size = s) := Cut.cut_back _ _
  have hL : (strOfNums (Cut.expText k a b)).size ≤ 5 := by rw [strOfNums_size]; exact Cut.expText_len k a b
  unfold maxLen at hs
  go_enter Try.func4, Try.ntmps4
  go_wp2_with fail
  refine h11.out.mono ?_
  rintro e w1 ⟨rfl, rfl⟩
  go_wp2_with fail
  refine h12.out.mono ?_
  rintro e w2 ⟨rfl, hg⟩
  generalize strOfNums (Cut.expText k a b) = T at hC hB hL ⊢
  have hS : (s ++ T).size ≤ 2097152 := by rw [ByteArray.size_append]; omega
  go_wp2_with fail
  generalize s ++ T = S at hC hB hS ⊢
  refine (zzcut S _ (by unfold maxLen; omega) hS).mono ?_
  rintro e w3 ⟨k', v, rfl, hr, rfl⟩
  obtain ⟨rfl, rfl⟩ := Cut.cutR_unique hr hC.out
  rw [hB.out]
  go_wp2
  go_ret
  exact ⟨rfl, hg⟩

set_option maxHeartbeats 400000 in
theorem long (s : ByteArray) (k : Int) (a b : Bool) (w : World) (hs : s.size ≤ maxLen) (h20 : ¬ s.size ≤ 1048576) :
    Calls Try.prog 4 #[.string s, .int .i32 k, .bool a, .bool b] w fun e w' => e = .returned (.bool true) ∧ Grown w w' := by
  unfold maxLen at hs
  go_enter Try.func4, Try.ntmps4
  go_wp2
  go_ret
  exact ⟨rfl, Grown.refl _⟩

set_option maxHeartbeats 400000 in
theorem far (s : ByteArray) (k : Int) (a b : Bool) (w : World) (hs : s.size ≤ maxLen) (h20 : s.size ≤ 1048576) (hk : k < -999 ∨ 999 < k) :
    Calls Try.prog 4 #[.string s, .int .i32 k, .bool a, .bool b] w fun e w' => e = .returned (.bool true) ∧ Grown w w' := by
  have h11 : Hid (Calls Try.prog 11 #[.string s, .int .i32 k, .bool a, .bool b] w fun e w' => e = .returned (.bool true) ∧ w' = w) := bytes11 s k a b w hs h20
  unfold maxLen at hs
  rcases hk with hk | hk
  all_goals
    go_enter Try.func4, Try.ntmps4
    go_wp2_with fail
    refine h11.out.mono ?_
    rintro e w1 ⟨rfl, rfl⟩
    go_wp2
    go_ret
    exact ⟨rfl, Grown.refl _⟩

theorem walk (a0 : ByteArray) (a1 : Int) (a2 : Bool) (a3 : Bool) (w0 : a0.size ≤ maxLen) (w1 : (Lit.int .i32 a1).wf = true) (w : World) :
    Calls Try.prog 4 #[.string a0, .int .i32 a1, .bool a2, .bool a3] w fun e w' => e = .returned (.bool true) ∧ Grown w w' := by
  by_cases h20 : a0.size ≤ 1048576
  · by_cases hk : -999 ≤ a1 ∧ a1 ≤ 999
    · exact good a0 a1 a2 a3 w w0 h20 hk.1 hk.2
    · exact far a0 a1 a2 a3 w w0 h20 (by omega)
  · exact long a0 a1 a2 a3 w w0 h20

/-! ### THE ROW's STEP: WRITTEN OUT: LEAVE IT -/
set_option maxRecDepth 100000 in
theorem lifted (os : Os) (started : os.Started) (H : Type) (enc : TypeId × Value → H) :
    ReturnsInHanded {} Try.checked os 4 .any (Rows.fnCutExponentRoundTripSpec.pre6 enc Try.prog Try.f4 Rows.fnCutExponentRoundTripRow.domain false) (Rows.fnCutExponentRoundTripSpec.post enc Try.prog Try.f4 false true false false) := by
  refine returnsInHanded_of_change (C := Try.checked) own started (by kernel_rfl) Try.func4
    (ChangeSpec.witness6 (enc := enc) (C := Try.checked) false ⟨#[], #[.string ByteArray.empty, .int .i32 0, .bool false, .bool false], []⟩ 8 (by kernel_rfl) (by kernel_rfl) (by kernel_rfl) (by kernel_rfl)) ?_
  intro W base args ds gs before hval0 hW hcnd _
  have hval : ∀ (j : Nat) t v, Try.f4.params[j]? = some t → args[j]? = some v → Value.okWide Try.prog W .any base t v := hval0
  have hW' := hW
  obtain ⟨p, q, hA0, hV, rfl, hfz, hnd⟩ := hW
  have hA : DataW.TrodAll enc Try.prog W 0 (fun _ => true) true Try.f4.params.toList args.toList ds p := hA0
  rw [Try.params4] at hA hval
  obtain ⟨v0, vs0, d0, ds0, p0, q0, hargs, rfl, rfl, h0, r0⟩ := trodAll_cons hA
  obtain ⟨v1, vs1, d1, ds1, p1, q1, rfl, rfl, rfl, h1, r1⟩ := trodAll_cons r0
  obtain ⟨v2, vs2, d2, ds2, p2, q2, rfl, rfl, rfl, h2, r2⟩ := trodAll_cons r1
  obtain ⟨v3, vs3, d3, ds3, p3, q3, rfl, rfl, rfl, h3, r3⟩ := trodAll_cons r2
  obtain ⟨rfl, rfl, rfl⟩ := trodAll_nil r3
  obtain rfl : args = #[v0, v1, v2, v3] := by cases args; simp_all
  obtain ⟨rfl, rfl⟩ := trodVars_none hV
  obtain ⟨a0, rfl, rfl, rfl, w0⟩ := open_string Try.underlying9 (hval 0 9 v0 rfl rfl) h0
  obtain ⟨a1, rfl, rfl, rfl, w1⟩ := open_int Try.underlying21 (hval 1 21 v1 rfl rfl) h1
  obtain ⟨a2, rfl, rfl, rfl⟩ := open_bool Try.underlying4 (hval 2 4 v2 rfl rfl) h2
  obtain ⟨a3, rfl, rfl, rfl⟩ := open_bool Try.underlying4 (hval 3 4 v3 rfl rfl) h3
  clear hA0 hval0
  simp only [List.append_nil] at hW'
  refine (walk a0 a1 a2 a3 w0 w1 W).mono fun e W' ⟨he, hg⟩ => ?_
  subst he
  exact ⟨_, rfl, post_of_same (pa := []) (pv := []) hW' (fun _ _ _ => (trodAll_cons_mk (shut_bool Try.underlying4 _) trodAll_mk0)) (fun sp _ => (trodAll_cons_mk (shut_string Try.underlying9 w0) (trodAll_cons_mk (shut_int Try.underlying21 w1) (trodAll_cons_mk (shut_bool Try.underlying4 _) (trodAll_cons_mk (shut_bool Try.underlying4 _) trodAll_mk0))))) (fun _ _ => rfl) rfl
    (hg.frame _) hg.2.1 (ok_one (by kernel_rfl) rfl (okWide_bool_mk Try.underlying4 _))⟩

theorem over : Rows.fnCutExponentRoundTripRow.holds Try.pinned (OpenSpec.ofChange Rows.fnCutExponentRoundTripSpec) :=
  OpenClaim.holds_of_wide 4 Try.f4 rfl rfl rfl rfl rfl rfl rfl ⟨rfl, rfl, rfl, rfl, rfl⟩ rfl rfl rfl rfl rfl (by kernel_rfl) Try.func4 (by kernel_rfl)
    (of_decide_eq_true (by kernel_rfl)) (by unfold Func.isWrapper; first | (rw [if_pos (by decide +kernel)]; kernel_rfl) | (rw [if_neg (by decide +kernel)]; exact ⟨rfl, rfl⟩))
    (fun os started H enc _ => lifted os started H enc)

/-- ████ THE STATEMENT ████ -/
theorem proved : Rows.FnCutExponentRoundTripSaid :=
  over
#print axioms proved
end Go.Proofs.Qxb6603934a.fnCutExponentRoundTrip
