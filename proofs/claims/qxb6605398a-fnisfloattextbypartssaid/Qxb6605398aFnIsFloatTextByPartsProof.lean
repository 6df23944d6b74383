/-
  The proof of 'Rows.FnIsFloatTextByPartsSaid' (the frame is the guide's template; the walk's cases are laid by a program of this seat).
-/
import Derived.Test.Qxb6605398aPartsN
import Derived.Test.Qxb6605398aPartsP
import Derived.Test.Qxb6605398aPartsM
import Derived.ProofKit
import Derived.OpenShut
import Derived.ShutString
namespace Go.Proofs.Qxb6605398a.fnIsFloatTextByParts
open Go.ChangeShapes Go.WideShapes Go.ChangeAt Go.RowKit
open Go.ChangeMaps (open_string shut_string)
set_option linter.unusedVariables false      -- a walk need not use every 'w<i>' (that an integer argument fits its kind)

theorem own : ownKnob Try.prog.godebug = none := by kernel_rfl

theorem core (a0 a1 a2 a3 : ByteArray) (a4 a5 a6 : Bool) (w0 : a0.size ≤ maxLen) (w1 : a1.size ≤ maxLen) (w2 : a2.size ≤ maxLen) (w3 : a3.size ≤ maxLen) (w : World) :
    Calls Try.prog 6 #[.string a0, .string a1, .string a2, .string a3, .bool a4, .bool a5, .bool a6] w fun e w' => e = .returned (.bool true) ∧ w' = w := by
  by_cases hzn : ¬ a0.size + a1.size + a2.size + a3.size ≤ 1048576
  · exact case_big a0 a1 a2 a3 a4 a5 a6 w w0 w1 w2 w3 (by simpa using hzn)
  have hz : a0.size + a1.size + a2.size + a3.size ≤ 1048576 := by omega
  have hz' : decide (a0.size + a1.size + a2.size + a3.size ≤ 1048576) = true := by simpa using hz
  by_cases g0 : 262144 < a0.size
  · exact case_long0 a0 a1 a2 a3 a4 a5 a6 w w0 w1 w2 w3 hz hz' g0
  have l0 : a0.size ≤ 262144 := by omega
  by_cases g1 : 262144 < a1.size
  · exact case_long1 a0 a1 a2 a3 a4 a5 a6 w w0 w1 w2 w3 hz hz' l0 g1
  have l1 : a1.size ≤ 262144 := by omega
  by_cases g2 : 262144 < a2.size
  · exact case_long2 a0 a1 a2 a3 a4 a5 a6 w w0 w1 w2 w3 hz hz' l0 l1 g2
  have l2 : a2.size ≤ 262144 := by omega
  by_cases g3 : 262144 < a3.size
  · exact case_long3 a0 a1 a2 a3 a4 a5 a6 w w0 w1 w2 w3 hz hz' l0 l1 l2 g3
  have l3 : a3.size ≤ 262144 := by omega
  by_cases d0 : allB digB a0 = true
  case neg => exact case_dig0 a0 a1 a2 a3 a4 a5 a6 w w0 w1 w2 w3 hz hz' l0 l1 l2 l3 (by simpa using d0)
  by_cases d1 : allB digB a1 = true
  case neg => exact case_dig1 a0 a1 a2 a3 a4 a5 a6 w w0 w1 w2 w3 hz hz' l0 l1 l2 l3 d0 (by simpa using d1)
  by_cases d3 : allB digB a3 = true
  case neg => exact case_dig3 a0 a1 a2 a3 a4 a5 a6 w w0 w1 w2 w3 hz hz' l0 l1 l2 l3 d0 d1 (by simpa using d3)
  by_cases s0 : a2.toList = []
  · have e := toList_inj s0
    subst e
    exact (by
      cases a4 with
      | true =>
        cases a5 with
        | false => exact main_tnn a0 a1 a3 a6 w w0 w1 w2 w3 hz l0 l1 l3 d0 d1 d3
        | true =>
          cases a6 with
          | true => exact main_tun a0 a1 a3 w w0 w1 w2 w3 hz l0 l1 l3 d0 d1 d3
          | false => exact main_tln a0 a1 a3 w w0 w1 w2 w3 hz l0 l1 l3 d0 d1 d3
      | false =>
        cases a5 with
        | false => exact main_fnn a0 a1 a3 a6 w w0 w1 w2 w3 hz l0 l1 l3 d0 d1 d3
        | true =>
          cases a6 with
          | true => exact main_fun a0 a1 a3 w w0 w1 w2 w3 hz l0 l1 l3 d0 d1 d3
          | false => exact main_fln a0 a1 a3 w w0 w1 w2 w3 hz l0 l1 l3 d0 d1 d3)
  by_cases s1 : a2.toList = [43]
  · have e := toList_inj s1
    subst e
    exact (by
      cases a4 with
      | true =>
        cases a5 with
        | false => exact main_tnp a0 a1 a3 a6 w w0 w1 w2 w3 hz l0 l1 l3 d0 d1 d3
        | true =>
          cases a6 with
          | true => exact main_tup a0 a1 a3 w w0 w1 w2 w3 hz l0 l1 l3 d0 d1 d3
          | false => exact main_tlp a0 a1 a3 w w0 w1 w2 w3 hz l0 l1 l3 d0 d1 d3
      | false =>
        cases a5 with
        | false => exact main_fnp a0 a1 a3 a6 w w0 w1 w2 w3 hz l0 l1 l3 d0 d1 d3
        | true =>
          cases a6 with
          | true => exact main_fup a0 a1 a3 w w0 w1 w2 w3 hz l0 l1 l3 d0 d1 d3
          | false => exact main_flp a0 a1 a3 w w0 w1 w2 w3 hz l0 l1 l3 d0 d1 d3)
  by_cases s2 : a2.toList = [45]
  · have e := toList_inj s2
    subst e
    exact (by
      cases a4 with
      | true =>
        cases a5 with
        | false => exact main_tnm a0 a1 a3 a6 w w0 w1 w2 w3 hz l0 l1 l3 d0 d1 d3
        | true =>
          cases a6 with
          | true => exact main_tum a0 a1 a3 w w0 w1 w2 w3 hz l0 l1 l3 d0 d1 d3
          | false => exact main_tlm a0 a1 a3 w w0 w1 w2 w3 hz l0 l1 l3 d0 d1 d3
      | false =>
        cases a5 with
        | false => exact main_fnm a0 a1 a3 a6 w w0 w1 w2 w3 hz l0 l1 l3 d0 d1 d3
        | true =>
          cases a6 with
          | true => exact main_fum a0 a1 a3 w w0 w1 w2 w3 hz l0 l1 l3 d0 d1 d3
          | false => exact main_flm a0 a1 a3 w w0 w1 w2 w3 hz l0 l1 l3 d0 d1 d3)
  exact case_sign a0 a1 a2 a3 a4 a5 a6 w w0 w1 w2 w3 hz hz' l0 l1 l2 l3 d0 d1 d3 (by simpa using s0) (by simpa using s1) (by simpa using s2) s0 s1

/-! ### STEP 1: THE WALK: the Go text returns true. 'Grown w w'': the world has at most new blocks (Derived/RowKit3.lean). Part the cases AHEAD of 'go_enter' where a test parts the walk; take each callee by a contract of your own. -/
theorem walk (a0 : ByteArray) (a1 : ByteArray) (a2 : ByteArray) (a3 : ByteArray) (a4 : Bool) (a5 : Bool) (a6 : Bool) (w0 : a0.size ≤ maxLen) (w1 : a1.size ≤ maxLen) (w2 : a2.size ≤ maxLen) (w3 : a3.size ≤ maxLen) (w : World) :
    Calls Try.prog 6 #[.string a0, .string a1, .string a2, .string a3, .bool a4, .bool a5, .bool a6] w fun e w' => e = .returned (.bool true) ∧ Grown w w' := by
  refine (core a0 a1 a2 a3 a4 a5 a6 w0 w1 w2 w3 w).mono ?_
  rintro e w' ⟨rfl, rfl⟩
  exact ⟨rfl, Grown.refl _⟩

/-! ### THE ROW's STEP: WRITTEN OUT: LEAVE IT -/
set_option maxRecDepth 100000 in
theorem lifted (os : Os) (started : os.Started) (H : Type) (enc : TypeId × Value → H) :
    ReturnsInHanded {} Try.checked os 6 .any (Rows.fnIsFloatTextByPartsSpec.pre6 enc Try.prog Try.f6 Rows.fnIsFloatTextByPartsRow.domain false) (Rows.fnIsFloatTextByPartsSpec.post enc Try.prog Try.f6 false true false false) := by
  refine returnsInHanded_of_change (C := Try.checked) own started (by kernel_rfl) Try.func6
    (ChangeSpec.witness6 (enc := enc) (C := Try.checked) false ⟨#[], #[.string ByteArray.empty, .string ByteArray.empty, .string ByteArray.empty, .string ByteArray.empty, .bool false, .bool false, .bool false], []⟩ 8 (by kernel_rfl) (by kernel_rfl) (by kernel_rfl) (by kernel_rfl)) ?_
  intro W base args ds gs before hval0 hW hcnd _
  have hval : ∀ (j : Nat) t v, Try.f6.params[j]? = some t → args[j]? = some v → Value.okWide Try.prog W .any base t v := hval0
  have hW' := hW
  obtain ⟨p, q, hA0, hV, rfl, hfz, hnd⟩ := hW
  have hA : DataW.TrodAll enc Try.prog W 0 (fun _ => true) true Try.f6.params.toList args.toList ds p := hA0
  rw [Try.params6] at hA hval
  obtain ⟨v0, vs0, d0, ds0, p0, q0, hargs, rfl, rfl, h0, r0⟩ := trodAll_cons hA
  obtain ⟨v1, vs1, d1, ds1, p1, q1, rfl, rfl, rfl, h1, r1⟩ := trodAll_cons r0
  obtain ⟨v2, vs2, d2, ds2, p2, q2, rfl, rfl, rfl, h2, r2⟩ := trodAll_cons r1
  obtain ⟨v3, vs3, d3, ds3, p3, q3, rfl, rfl, rfl, h3, r3⟩ := trodAll_cons r2
  obtain ⟨v4, vs4, d4, ds4, p4, q4, rfl, rfl, rfl, h4, r4⟩ := trodAll_cons r3
  obtain ⟨v5, vs5, d5, ds5, p5, q5, rfl, rfl, rfl, h5, r5⟩ := trodAll_cons r4
  obtain ⟨v6, vs6, d6, ds6, p6, q6, rfl, rfl, rfl, h6, r6⟩ := trodAll_cons r5
  obtain ⟨rfl, rfl, rfl⟩ := trodAll_nil r6
  obtain rfl : args = #[v0, v1, v2, v3, v4, v5, v6] := by cases args; simp_all
  obtain ⟨rfl, rfl⟩ := trodVars_none hV
  obtain ⟨a0, rfl, rfl, rfl, w0⟩ := open_string Try.underlying9 (hval 0 9 v0 rfl rfl) h0
  obtain ⟨a1, rfl, rfl, rfl, w1⟩ := open_string Try.underlying9 (hval 1 9 v1 rfl rfl) h1
  obtain ⟨a2, rfl, rfl, rfl, w2⟩ := open_string Try.underlying9 (hval 2 9 v2 rfl rfl) h2
  obtain ⟨a3, rfl, rfl, rfl, w3⟩ := open_string Try.underlying9 (hval 3 9 v3 rfl rfl) h3
  obtain ⟨a4, rfl, rfl, rfl⟩ := open_bool Try.underlying4 (hval 4 4 v4 rfl rfl) h4
  obtain ⟨a5, rfl, rfl, rfl⟩ := open_bool Try.underlying4 (hval 5 4 v5 rfl rfl) h5
  obtain ⟨a6, rfl, rfl, rfl⟩ := open_bool Try.underlying4 (hval 6 4 v6 rfl rfl) h6
  clear hA0 hval0
  simp only [List.append_nil] at hW'
  refine (walk a0 a1 a2 a3 a4 a5 a6 w0 w1 w2 w3 W).mono fun e W' ⟨he, hg⟩ => ?_
  subst he
  exact ⟨_, rfl, post_of_same (pa := []) (pv := []) hW' (fun _ _ _ => (trodAll_cons_mk (shut_bool Try.underlying4 _) trodAll_mk0)) (fun sp _ => (trodAll_cons_mk (shut_string Try.underlying9 w0) (trodAll_cons_mk (shut_string Try.underlying9 w1) (trodAll_cons_mk (shut_string Try.underlying9 w2) (trodAll_cons_mk (shut_string Try.underlying9 w3) (trodAll_cons_mk (shut_bool Try.underlying4 _) (trodAll_cons_mk (shut_bool Try.underlying4 _) (trodAll_cons_mk (shut_bool Try.underlying4 _) trodAll_mk0)))))))) (fun _ _ => rfl) rfl
    (hg.frame _) hg.2.1 (ok_one (by kernel_rfl) rfl (okWide_bool_mk Try.underlying4 _))⟩

theorem over : Rows.fnIsFloatTextByPartsRow.holds Try.pinned (OpenSpec.ofChange Rows.fnIsFloatTextByPartsSpec) :=
  OpenClaim.holds_of_wide 6 Try.f6 rfl rfl rfl rfl rfl rfl rfl ⟨rfl, rfl, rfl, rfl, rfl⟩ rfl rfl rfl rfl rfl (by kernel_rfl) Try.func6 (by kernel_rfl)
    (of_decide_eq_true (by kernel_rfl)) (by unfold Func.isWrapper; first | (rw [if_pos (by decide +kernel)]; kernel_rfl) | (rw [if_neg (by decide +kernel)]; exact ⟨rfl, rfl⟩))
    (fun os started H enc _ => lifted os started H enc)

/-- ████ THE STATEMENT ████ -/
theorem proved : Rows.FnIsFloatTextByPartsSaid :=
  over
end Go.Proofs.Qxb6605398a.fnIsFloatTextByParts
