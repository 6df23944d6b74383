/-
  The proof of 'Rows.FnIsFloatTextMatchesCoreSchemaSaid' (the frame is the guide's template).
-/
import Derived.Test.Qxb6605398aModelWalk
import Derived.ProofKit
import Derived.OpenShut
import Derived.ShutString
namespace Go.Proofs.Qxb6605398a.fnIsFloatTextMatchesCoreSchema
open Go.ChangeShapes Go.WideShapes Go.ChangeAt Go.RowKit
open Go.ChangeMaps (open_string shut_string)
set_option linter.unusedVariables false      -- a walk need not use every 'w<i>' (that an integer argument fits its kind)

theorem own : ownKnob Try.prog.godebug = none := by kernel_rfl

set_option maxHeartbeats 400000 in
theorem bytes13_any (a0 : ByteArray) (w : World) (w0 : a0.size ≤ maxLen) :
    Calls Try.prog 13 #[.string a0] w fun e w' => e = .returned (.bool (decide (a0.size ≤ 1048576))) ∧ w' = w := by
  unfold maxLen at w0
  go_enter Try.func13, Try.ntmps13
  go_wp2
  all_goals
    go_ret
    refine ⟨ret_bool ?_, rfl⟩
    rw [eq_comm]
    simp
    omega

theorem both {s : ByteArray} {b1 b2 : Bool} (h1 : FlR s b1) (h2 : Outc s b2) : b1 = b2 := by
  obtain ⟨k, hk, h⟩ := h2
  rw [Bool.eq_iff_iff, h]
  exact float_law h1 hk

set_option maxHeartbeats 400000 in
theorem case_big (a0 : ByteArray) (w : World) (w0 : a0.size ≤ maxLen) (_hz' : decide (a0.size ≤ 1048576) = false) :
    Calls Try.prog 5 #[.string a0] w fun e w' => e = .returned (.bool true) ∧ w' = w := by
  unfold maxLen at w0
  go_enter Try.func5, Try.ntmps5
  go_wp2_with (go_at_call 13; refine (bytes13_any _ _ w0).mono ?_; rintro e w' ⟨rfl, rfl⟩)
  go_ret
  exact ⟨rfl, rfl⟩

set_option maxHeartbeats 400000 in
theorem case_in (a0 : ByteArray) (w : World) (w0 : a0.size ≤ maxLen) (_hz : a0.size ≤ 1048576) (_hz' : decide (a0.size ≤ 1048576) = true) :
    Calls Try.prog 5 #[.string a0] w fun e w' => e = .returned (.bool true) ∧ w' = w := by
  unfold maxLen at w0
  go_enter Try.func5, Try.ntmps5
  go_wp2_with (first | (go_at_call 13; refine (bytes13_any _ _ w0).mono ?_; rintro e w' ⟨rfl, rfl⟩) | (go_at_call 14; refine (zzfloat_any _ _ w0).mono ?_; rintro e w' ⟨b1, rfl, hb1, rfl⟩; have HB1 : Hid (_) := hb1; clear hb1) | (go_at_call 15; refine (model_any _ _ w0).mono ?_; rintro e w' ⟨⟨b2, rfl, hb2⟩, rfl⟩; have hbb := both HB1.out hb2; clear hb2 HB1; subst hbb))
  go_ret
  exact ⟨ret_bool (by simp), rfl⟩

theorem core (a0 : ByteArray) (w0 : a0.size ≤ maxLen) (w : World) :
    Calls Try.prog 5 #[.string a0] w fun e w' => e = .returned (.bool true) ∧ w' = w := by
  by_cases hz : a0.size ≤ 1048576
  · exact case_in a0 w w0 hz (by simpa using hz)
  · exact case_big a0 w w0 (by simpa using hz)

/-! ### STEP 1: THE WALK: the Go text returns true. 'Grown w w'': the world has at most new blocks (Derived/RowKit3.lean). Part the cases AHEAD of 'go_enter' where a test parts the walk; take each callee by a contract of your own. -/
theorem walk (a0 : ByteArray) (w0 : a0.size ≤ maxLen) (w : World) :
    Calls Try.prog 5 #[.string a0] w fun e w' => e = .returned (.bool true) ∧ Grown w w' := by
  refine (core a0 w0 w).mono ?_
  rintro e w' ⟨rfl, rfl⟩
  exact ⟨rfl, Grown.refl _⟩

/-! ### THE ROW's STEP: WRITTEN OUT: LEAVE IT -/
set_option maxRecDepth 100000 in
theorem lifted (os : Os) (started : os.Started) (H : Type) (enc : TypeId × Value → H) :
    ReturnsInHanded {} Try.checked os 5 .any (Rows.fnIsFloatTextMatchesCoreSchemaSpec.pre6 enc Try.prog Try.f5 Rows.fnIsFloatTextMatchesCoreSchemaRow.domain false) (Rows.fnIsFloatTextMatchesCoreSchemaSpec.post enc Try.prog Try.f5 false true false false) := by
  refine returnsInHanded_of_change (C := Try.checked) own started (by kernel_rfl) Try.func5
    (ChangeSpec.witness6 (enc := enc) (C := Try.checked) false ⟨#[], #[.string ByteArray.empty], []⟩ 8 (by kernel_rfl) (by kernel_rfl) (by kernel_rfl) (by kernel_rfl)) ?_
  intro W base args ds gs before hval0 hW hcnd _
  have hval : ∀ (j : Nat) t v, Try.f5.params[j]? = some t → args[j]? = some v → Value.okWide Try.prog W .any base t v := hval0
  have hW' := hW
  obtain ⟨p, q, hA0, hV, rfl, hfz, hnd⟩ := hW
  have hA : DataW.TrodAll enc Try.prog W 0 (fun _ => true) true Try.f5.params.toList args.toList ds p := hA0
  rw [Try.params5] at hA hval
  obtain ⟨v0, vs0, d0, ds0, p0, q0, hargs, rfl, rfl, h0, r0⟩ := trodAll_cons hA
  obtain ⟨rfl, rfl, rfl⟩ := trodAll_nil r0
  obtain rfl : args = #[v0] := by cases args; simp_all
  obtain ⟨rfl, rfl⟩ := trodVars_none hV
  obtain ⟨a0, rfl, rfl, rfl, w0⟩ := open_string Try.underlying9 (hval 0 9 v0 rfl rfl) h0
  clear hA0 hval0
  simp only [List.append_nil] at hW'
  refine (walk a0 w0 W).mono fun e W' ⟨he, hg⟩ => ?_
  subst he
  exact ⟨_, rfl, post_of_same (pa := []) (pv := []) hW' (fun _ _ _ => (trodAll_cons_mk (shut_bool Try.underlying4 _) trodAll_mk0)) (fun sp _ => (trodAll_cons_mk (shut_string Try.underlying9 w0) trodAll_mk0)) (fun _ _ => rfl) rfl
    (hg.frame _) hg.2.1 (ok_one (by kernel_rfl) rfl (okWide_bool_mk Try.underlying4 _))⟩

theorem over : Rows.fnIsFloatTextMatchesCoreSchemaRow.holds Try.pinned (OpenSpec.ofChange Rows.fnIsFloatTextMatchesCoreSchemaSpec) :=
  OpenClaim.holds_of_wide 5 Try.f5 rfl rfl rfl rfl rfl rfl rfl ⟨rfl, rfl, rfl, rfl, rfl⟩ rfl rfl rfl rfl rfl (by kernel_rfl) Try.func5 (by kernel_rfl)
    (of_decide_eq_true (by kernel_rfl)) (by unfold Func.isWrapper; first | (rw [if_pos (by decide +kernel)]; kernel_rfl) | (rw [if_neg (by decide +kernel)]; exact ⟨rfl, rfl⟩))
    (fun os started H enc _ => lifted os started H enc)

/-- ████ THE STATEMENT ████ -/
theorem proved : Rows.FnIsFloatTextMatchesCoreSchemaSaid :=
  over
end Go.Proofs.Qxb6605398a.fnIsFloatTextMatchesCoreSchema
