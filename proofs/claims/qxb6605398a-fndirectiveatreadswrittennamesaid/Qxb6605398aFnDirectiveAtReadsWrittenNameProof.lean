/-
  The proof of 'Rows.FnDirectiveAtReadsWrittenNameSaid' (the frame is the guide's template; the walk's cases are laid by a program of this seat).
-/
import Derived.Test.Qxb6605398aReads
import Derived.ProofKit
import Derived.OpenShut
import Derived.ShutString
namespace Go.Proofs.Qxb6605398a.fnDirectiveAtReadsWrittenName
open Go.ChangeShapes Go.WideShapes Go.ChangeAt Go.RowKit
open Go.ChangeMaps (open_string shut_string)
set_option linter.unusedVariables false      -- a walk need not use every 'w<i>' (that an integer argument fits its kind)

theorem own : ownKnob Try.prog.godebug = none := by kernel_rfl

set_option maxHeartbeats 400000 in
theorem bytes12_any (a0 a1 a2 : ByteArray) (b0 b1 : Bool) (w : World) (w0 : a0.size ≤ maxLen) (w1 : a1.size ≤ maxLen) (w2 : a2.size ≤ maxLen) :
    Calls Try.prog 12 #[.string a0, .string a1, .string a2, .bool b0, .bool b1] w fun e w' => e = .returned (.bool (decide (a0.size + a1.size + a2.size ≤ 1048576))) ∧ w' = w := by
  unfold maxLen at w0 w1 w2
  go_enter Try.func12, Try.ntmps12
  go_wp2
  all_goals
    go_ret
    refine ⟨ret_bool ?_, rfl⟩
    rw [eq_comm]
    simp
    omega

set_option maxHeartbeats 400000 in
theorem case_big (a0 a1 a2 : ByteArray) (b0 b1 : Bool) (w : World) (w0 : a0.size ≤ maxLen) (w1 : a1.size ≤ maxLen) (w2 : a2.size ≤ maxLen) (_hz' : decide (a0.size + a1.size + a2.size ≤ 1048576) = false) :
    Calls Try.prog 4 #[.string a0, .string a1, .string a2, .bool b0, .bool b1] w fun e w' => e = .returned (.bool true) ∧ w' = w := by
  unfold maxLen at w0 w1 w2
  go_enter Try.func4, Try.ntmps4
  go_wp2_with (first | (go_at_call 12; refine (bytes12_any _ _ _ _ _ _ w0 w1 w2).mono ?_; rintro e w' ⟨rfl, rfl⟩) | (go_at_call 10; refine (allLetters_any _ _ w1).mono ?_; rintro e w' ⟨rfl, rfl⟩) | (go_at_call 11; refine (zzLetter_any _ _).mono ?_; rintro e w' ⟨rfl, rfl⟩))
  go_ret
  exact ⟨rfl, rfl⟩

set_option maxHeartbeats 400000 in
theorem case_word (a0 a1 a2 : ByteArray) (b0 b1 : Bool) (w : World) (w0 : a0.size ≤ maxLen) (w1 : a1.size ≤ maxLen) (w2 : a2.size ≤ maxLen) (_hz : a0.size + a1.size + a2.size ≤ 1048576) (_hz' : decide (a0.size + a1.size + a2.size ≤ 1048576) = true) (_hl : allB letB a1 = false) :
    Calls Try.prog 4 #[.string a0, .string a1, .string a2, .bool b0, .bool b1] w fun e w' => e = .returned (.bool true) ∧ w' = w := by
  unfold maxLen at w0 w1 w2
  go_enter Try.func4, Try.ntmps4
  go_wp2_with (first | (go_at_call 12; refine (bytes12_any _ _ _ _ _ _ w0 w1 w2).mono ?_; rintro e w' ⟨rfl, rfl⟩) | (go_at_call 10; refine (allLetters_any _ _ w1).mono ?_; rintro e w' ⟨rfl, rfl⟩) | (go_at_call 11; refine (zzLetter_any _ _).mono ?_; rintro e w' ⟨rfl, rfl⟩))
  go_ret
  exact ⟨rfl, rfl⟩

set_option maxHeartbeats 400000 in
theorem case_tt (a0 a1 a2 : ByteArray) (w : World) (w0 : a0.size ≤ maxLen) (w1 : a1.size ≤ maxLen) (w2 : a2.size ≤ maxLen) (hz : a0.size + a1.size + a2.size ≤ 1048576) (_hz' : decide (a0.size + a1.size + a2.size ≤ 1048576) = true) (hl : allB letB a1 = true) :
    Calls Try.prog 4 #[.string a0, .string a1, .string a2, .bool true, .bool true] w fun e w' => e = .returned (.bool true) ∧ w' = w := by
  unfold maxLen at w0 w1 w2
  go_enter Try.func4, Try.ntmps4
  go_wp2_with (first | (go_at_call 12; refine (bytes12_any _ _ _ _ _ _ w0 w1 w2).mono ?_; rintro e w' ⟨rfl, rfl⟩) | (go_at_call 10; refine (allLetters_any _ _ w1).mono ?_; rintro e w' ⟨rfl, rfl⟩) | (go_at_call 11; refine (zzLetter_any _ _).mono ?_; rintro e w' ⟨rfl, rfl⟩) | (go_at_call 8; refine (reads_tt a0 a1 a2 _ hz hl).mono ?_; rintro e w' ⟨rfl, rfl⟩))
  go_ret
  exact ⟨rfl, rfl⟩

set_option maxHeartbeats 400000 in
theorem case_tf0 (a0 a1 a2 : ByteArray) (w : World) (w0 : a0.size ≤ maxLen) (w1 : a1.size ≤ maxLen) (w2 : a2.size ≤ maxLen) (hz : a0.size + a1.size + a2.size ≤ 1048576) (_hz' : decide (a0.size + a1.size + a2.size ≤ 1048576) = true) (hl : allB letB a1 = true) (_h0 : ¬ 0 < a2.size) (hn1 : letB (bt a2 0) = false) (hn2 : bt a2 0 ≠ 123) :
    Calls Try.prog 4 #[.string a0, .string a1, .string a2, .bool true, .bool false] w fun e w' => e = .returned (.bool true) ∧ w' = w := by
  unfold maxLen at w0 w1 w2
  go_enter Try.func4, Try.ntmps4
  go_wp2_with (first | (go_at_call 12; refine (bytes12_any _ _ _ _ _ _ w0 w1 w2).mono ?_; rintro e w' ⟨rfl, rfl⟩) | (go_at_call 10; refine (allLetters_any _ _ w1).mono ?_; rintro e w' ⟨rfl, rfl⟩) | (go_at_call 11; refine (zzLetter_any _ _).mono ?_; rintro e w' ⟨rfl, rfl⟩) | (go_at_call 8; refine (reads_tf a0 a1 a2 _ hz hl hn1 hn2).mono ?_; rintro e w' ⟨rfl, rfl⟩))
  go_ret
  exact ⟨rfl, rfl⟩

set_option maxHeartbeats 400000 in
theorem case_tf1 (a0 a1 a2 : ByteArray) (w : World) (w0 : a0.size ≤ maxLen) (w1 : a1.size ≤ maxLen) (w2 : a2.size ≤ maxLen) (hz : a0.size + a1.size + a2.size ≤ 1048576) (_hz' : decide (a0.size + a1.size + a2.size ≤ 1048576) = true) (hl : allB letB a1 = true) (_h0 : 0 < a2.size) (hn1 : letB (bt a2 0) = false) (hn2 : bt a2 0 ≠ 123) (_q1 : letB a2[0].toNat = false) (_q2 : ((a2[0].toNat : Int) == 123) = false) (_q3 : ((a2[0].toNat : Int) == 33) = false) :
    Calls Try.prog 4 #[.string a0, .string a1, .string a2, .bool true, .bool false] w fun e w' => e = .returned (.bool true) ∧ w' = w := by
  unfold maxLen at w0 w1 w2
  go_enter Try.func4, Try.ntmps4
  go_wp2_with (first | (go_at_call 12; refine (bytes12_any _ _ _ _ _ _ w0 w1 w2).mono ?_; rintro e w' ⟨rfl, rfl⟩) | (go_at_call 10; refine (allLetters_any _ _ w1).mono ?_; rintro e w' ⟨rfl, rfl⟩) | (go_at_call 11; refine (zzLetter_any _ _).mono ?_; rintro e w' ⟨rfl, rfl⟩) | (go_at_call 8; refine (reads_tf a0 a1 a2 _ hz hl hn1 hn2).mono ?_; rintro e w' ⟨rfl, rfl⟩))
  go_ret
  exact ⟨rfl, rfl⟩

set_option maxHeartbeats 400000 in
theorem case_tfl (a0 a1 a2 : ByteArray) (w : World) (w0 : a0.size ≤ maxLen) (w1 : a1.size ≤ maxLen) (w2 : a2.size ≤ maxLen) (_hz : a0.size + a1.size + a2.size ≤ 1048576) (_hz' : decide (a0.size + a1.size + a2.size ≤ 1048576) = true) (_hl : allB letB a1 = true) (_h0 : 0 < a2.size) (_q1 : letB a2[0].toNat = true) :
    Calls Try.prog 4 #[.string a0, .string a1, .string a2, .bool true, .bool false] w fun e w' => e = .returned (.bool true) ∧ w' = w := by
  unfold maxLen at w0 w1 w2
  go_enter Try.func4, Try.ntmps4
  go_wp2_with (first | (go_at_call 12; refine (bytes12_any _ _ _ _ _ _ w0 w1 w2).mono ?_; rintro e w' ⟨rfl, rfl⟩) | (go_at_call 10; refine (allLetters_any _ _ w1).mono ?_; rintro e w' ⟨rfl, rfl⟩) | (go_at_call 11; refine (zzLetter_any _ _).mono ?_; rintro e w' ⟨rfl, rfl⟩))
  go_ret
  exact ⟨rfl, rfl⟩

set_option maxHeartbeats 400000 in
theorem case_tfb (a0 a1 a2 : ByteArray) (w : World) (w0 : a0.size ≤ maxLen) (w1 : a1.size ≤ maxLen) (w2 : a2.size ≤ maxLen) (_hz : a0.size + a1.size + a2.size ≤ 1048576) (_hz' : decide (a0.size + a1.size + a2.size ≤ 1048576) = true) (_hl : allB letB a1 = true) (_h0 : 0 < a2.size) (_q1 : letB a2[0].toNat = false) (_q2 : ((a2[0].toNat : Int) == 123) = true) :
    Calls Try.prog 4 #[.string a0, .string a1, .string a2, .bool true, .bool false] w fun e w' => e = .returned (.bool true) ∧ w' = w := by
  unfold maxLen at w0 w1 w2
  go_enter Try.func4, Try.ntmps4
  go_wp2_with (first | (go_at_call 12; refine (bytes12_any _ _ _ _ _ _ w0 w1 w2).mono ?_; rintro e w' ⟨rfl, rfl⟩) | (go_at_call 10; refine (allLetters_any _ _ w1).mono ?_; rintro e w' ⟨rfl, rfl⟩) | (go_at_call 11; refine (zzLetter_any _ _).mono ?_; rintro e w' ⟨rfl, rfl⟩))
  go_ret
  exact ⟨rfl, rfl⟩

set_option maxHeartbeats 400000 in
theorem case_tfm (a0 a1 a2 : ByteArray) (w : World) (w0 : a0.size ≤ maxLen) (w1 : a1.size ≤ maxLen) (w2 : a2.size ≤ maxLen) (_hz : a0.size + a1.size + a2.size ≤ 1048576) (_hz' : decide (a0.size + a1.size + a2.size ≤ 1048576) = true) (_hl : allB letB a1 = true) (_h0 : 0 < a2.size) (_q1 : letB a2[0].toNat = false) (_q2 : ((a2[0].toNat : Int) == 123) = false) (_q3 : ((a2[0].toNat : Int) == 33) = true) :
    Calls Try.prog 4 #[.string a0, .string a1, .string a2, .bool true, .bool false] w fun e w' => e = .returned (.bool true) ∧ w' = w := by
  unfold maxLen at w0 w1 w2
  go_enter Try.func4, Try.ntmps4
  go_wp2_with (first | (go_at_call 12; refine (bytes12_any _ _ _ _ _ _ w0 w1 w2).mono ?_; rintro e w' ⟨rfl, rfl⟩) | (go_at_call 10; refine (allLetters_any _ _ w1).mono ?_; rintro e w' ⟨rfl, rfl⟩) | (go_at_call 11; refine (zzLetter_any _ _).mono ?_; rintro e w' ⟨rfl, rfl⟩))
  go_ret
  exact ⟨rfl, rfl⟩

set_option maxHeartbeats 400000 in
theorem case_ft (a0 a1 a2 : ByteArray) (w : World) (w0 : a0.size ≤ maxLen) (w1 : a1.size ≤ maxLen) (w2 : a2.size ≤ maxLen) (hz : a0.size + a1.size + a2.size ≤ 1048576) (_hz' : decide (a0.size + a1.size + a2.size ≤ 1048576) = true) (hl : allB letB a1 = true) :
    Calls Try.prog 4 #[.string a0, .string a1, .string a2, .bool false, .bool true] w fun e w' => e = .returned (.bool true) ∧ w' = w := by
  unfold maxLen at w0 w1 w2
  go_enter Try.func4, Try.ntmps4
  go_wp2_with (first | (go_at_call 12; refine (bytes12_any _ _ _ _ _ _ w0 w1 w2).mono ?_; rintro e w' ⟨rfl, rfl⟩) | (go_at_call 10; refine (allLetters_any _ _ w1).mono ?_; rintro e w' ⟨rfl, rfl⟩) | (go_at_call 11; refine (zzLetter_any _ _).mono ?_; rintro e w' ⟨rfl, rfl⟩) | (go_at_call 8; refine (reads_ft a0 a1 a2 _ hz hl).mono ?_; rintro e w' ⟨rfl, rfl⟩))
  go_ret
  exact ⟨rfl, rfl⟩

set_option maxHeartbeats 400000 in
theorem case_ff0 (a0 a1 a2 : ByteArray) (w : World) (w0 : a0.size ≤ maxLen) (w1 : a1.size ≤ maxLen) (w2 : a2.size ≤ maxLen) (hz : a0.size + a1.size + a2.size ≤ 1048576) (_hz' : decide (a0.size + a1.size + a2.size ≤ 1048576) = true) (hl : allB letB a1 = true) (_h0 : ¬ 0 < a2.size) (hn1 : letB (bt a2 0) = false) (hn2 : bt a2 0 ≠ 123) (hn3 : bt a2 0 ≠ 33) :
    Calls Try.prog 4 #[.string a0, .string a1, .string a2, .bool false, .bool false] w fun e w' => e = .returned (.bool true) ∧ w' = w := by
  unfold maxLen at w0 w1 w2
  go_enter Try.func4, Try.ntmps4
  go_wp2_with (first | (go_at_call 12; refine (bytes12_any _ _ _ _ _ _ w0 w1 w2).mono ?_; rintro e w' ⟨rfl, rfl⟩) | (go_at_call 10; refine (allLetters_any _ _ w1).mono ?_; rintro e w' ⟨rfl, rfl⟩) | (go_at_call 11; refine (zzLetter_any _ _).mono ?_; rintro e w' ⟨rfl, rfl⟩) | (go_at_call 8; refine (reads_ff a0 a1 a2 _ hz hl hn1 hn2 hn3).mono ?_; rintro e w' ⟨rfl, rfl⟩))
  go_ret
  exact ⟨rfl, rfl⟩

set_option maxHeartbeats 400000 in
theorem case_ff1 (a0 a1 a2 : ByteArray) (w : World) (w0 : a0.size ≤ maxLen) (w1 : a1.size ≤ maxLen) (w2 : a2.size ≤ maxLen) (hz : a0.size + a1.size + a2.size ≤ 1048576) (_hz' : decide (a0.size + a1.size + a2.size ≤ 1048576) = true) (hl : allB letB a1 = true) (_h0 : 0 < a2.size) (hn1 : letB (bt a2 0) = false) (hn2 : bt a2 0 ≠ 123) (hn3 : bt a2 0 ≠ 33) (_q1 : letB a2[0].toNat = false) (_q2 : ((a2[0].toNat : Int) == 123) = false) (_q3 : ((a2[0].toNat : Int) == 33) = false) :
    Calls Try.prog 4 #[.string a0, .string a1, .string a2, .bool false, .bool false] w fun e w' => e = .returned (.bool true) ∧ w' = w := by
  unfold maxLen at w0 w1 w2
  go_enter Try.func4, Try.ntmps4
  go_wp2_with (first | (go_at_call 12; refine (bytes12_any _ _ _ _ _ _ w0 w1 w2).mono ?_; rintro e w' ⟨rfl, rfl⟩) | (go_at_call 10; refine (allLetters_any _ _ w1).mono ?_; rintro e w' ⟨rfl, rfl⟩) | (go_at_call 11; refine (zzLetter_any _ _).mono ?_; rintro e w' ⟨rfl, rfl⟩) | (go_at_call 8; refine (reads_ff a0 a1 a2 _ hz hl hn1 hn2 hn3).mono ?_; rintro e w' ⟨rfl, rfl⟩))
  go_ret
  exact ⟨rfl, rfl⟩

set_option maxHeartbeats 400000 in
theorem case_ffl (a0 a1 a2 : ByteArray) (w : World) (w0 : a0.size ≤ maxLen) (w1 : a1.size ≤ maxLen) (w2 : a2.size ≤ maxLen) (_hz : a0.size + a1.size + a2.size ≤ 1048576) (_hz' : decide (a0.size + a1.size + a2.size ≤ 1048576) = true) (_hl : allB letB a1 = true) (_h0 : 0 < a2.size) (_q1 : letB a2[0].toNat = true) :
    Calls Try.prog 4 #[.string a0, .string a1, .string a2, .bool false, .bool false] w fun e w' => e = .returned (.bool true) ∧ w' = w := by
  unfold maxLen at w0 w1 w2
  go_enter Try.func4, Try.ntmps4
  go_wp2_with (first | (go_at_call 12; refine (bytes12_any _ _ _ _ _ _ w0 w1 w2).mono ?_; rintro e w' ⟨rfl, rfl⟩) | (go_at_call 10; refine (allLetters_any _ _ w1).mono ?_; rintro e w' ⟨rfl, rfl⟩) | (go_at_call 11; refine (zzLetter_any _ _).mono ?_; rintro e w' ⟨rfl, rfl⟩))
  go_ret
  exact ⟨rfl, rfl⟩

set_option maxHeartbeats 400000 in
theorem case_ffb (a0 a1 a2 : ByteArray) (w : World) (w0 : a0.size ≤ maxLen) (w1 : a1.size ≤ maxLen) (w2 : a2.size ≤ maxLen) (_hz : a0.size + a1.size + a2.size ≤ 1048576) (_hz' : decide (a0.size + a1.size + a2.size ≤ 1048576) = true) (_hl : allB letB a1 = true) (_h0 : 0 < a2.size) (_q1 : letB a2[0].toNat = false) (_q2 : ((a2[0].toNat : Int) == 123) = true) :
    Calls Try.prog 4 #[.string a0, .string a1, .string a2, .bool false, .bool false] w fun e w' => e = .returned (.bool true) ∧ w' = w := by
  unfold maxLen at w0 w1 w2
  go_enter Try.func4, Try.ntmps4
  go_wp2_with (first | (go_at_call 12; refine (bytes12_any _ _ _ _ _ _ w0 w1 w2).mono ?_; rintro e w' ⟨rfl, rfl⟩) | (go_at_call 10; refine (allLetters_any _ _ w1).mono ?_; rintro e w' ⟨rfl, rfl⟩) | (go_at_call 11; refine (zzLetter_any _ _).mono ?_; rintro e w' ⟨rfl, rfl⟩))
  go_ret
  exact ⟨rfl, rfl⟩

set_option maxHeartbeats 400000 in
theorem case_ffm (a0 a1 a2 : ByteArray) (w : World) (w0 : a0.size ≤ maxLen) (w1 : a1.size ≤ maxLen) (w2 : a2.size ≤ maxLen) (_hz : a0.size + a1.size + a2.size ≤ 1048576) (_hz' : decide (a0.size + a1.size + a2.size ≤ 1048576) = true) (_hl : allB letB a1 = true) (_h0 : 0 < a2.size) (_q1 : letB a2[0].toNat = false) (_q2 : ((a2[0].toNat : Int) == 123) = false) (_q3 : ((a2[0].toNat : Int) == 33) = true) :
    Calls Try.prog 4 #[.string a0, .string a1, .string a2, .bool false, .bool false] w fun e w' => e = .returned (.bool true) ∧ w' = w := by
  unfold maxLen at w0 w1 w2
  go_enter Try.func4, Try.ntmps4
  go_wp2_with (first | (go_at_call 12; refine (bytes12_any _ _ _ _ _ _ w0 w1 w2).mono ?_; rintro e w' ⟨rfl, rfl⟩) | (go_at_call 10; refine (allLetters_any _ _ w1).mono ?_; rintro e w' ⟨rfl, rfl⟩) | (go_at_call 11; refine (zzLetter_any _ _).mono ?_; rintro e w' ⟨rfl, rfl⟩))
  go_ret
  exact ⟨rfl, rfl⟩

theorem core (a0 : ByteArray) (a1 : ByteArray) (a2 : ByteArray) (a3 : Bool) (a4 : Bool) (w0 : a0.size ≤ maxLen) (w1 : a1.size ≤ maxLen) (w2 : a2.size ≤ maxLen) (w : World) :
    Calls Try.prog 4 #[.string a0, .string a1, .string a2, .bool a3, .bool a4] w fun e w' => e = .returned (.bool true) ∧ w' = w := by
  by_cases hz : a0.size + a1.size + a2.size ≤ 1048576
  · have hz' : decide (a0.size + a1.size + a2.size ≤ 1048576) = true := by simpa using hz
    cases hl : allB letB a1 with
    | false => exact case_word a0 a1 a2 a3 a4 w w0 w1 w2 hz hz' hl
    | true =>
      cases a4 with
      | true =>
        cases a3 with
        | true => exact case_tt a0 a1 a2 w w0 w1 w2 hz hz' hl
        | false => exact case_ft a0 a1 a2 w w0 w1 w2 hz hz' hl
      | false =>
        by_cases h0 : 0 < a2.size
        · have e := bt_in h0
          cases q1 : letB a2[0].toNat with
          | true =>
            cases a3 with
            | true => exact case_tfl a0 a1 a2 w w0 w1 w2 hz hz' hl h0 q1
            | false => exact case_ffl a0 a1 a2 w w0 w1 w2 hz hz' hl h0 q1
          | false =>
            cases q2 : ((a2[0].toNat : Int) == 123) with
            | true =>
              cases a3 with
              | true => exact case_tfb a0 a1 a2 w w0 w1 w2 hz hz' hl h0 q1 q2
              | false => exact case_ffb a0 a1 a2 w w0 w1 w2 hz hz' hl h0 q1 q2
            | false =>
              cases q3 : ((a2[0].toNat : Int) == 33) with
              | true =>
                cases a3 with
                | true => exact case_tfm a0 a1 a2 w w0 w1 w2 hz hz' hl h0 q1 q2 q3
                | false => exact case_ffm a0 a1 a2 w w0 w1 w2 hz hz' hl h0 q1 q2 q3
              | false =>
                have n1 : letB (bt a2 0) = false := by rw [← e]; exact q1
                have n2 : bt a2 0 ≠ 123 := by rw [← e]; simpa using q2
                have n3 : bt a2 0 ≠ 33 := by rw [← e]; simpa using q3
                cases a3 with
                | true => exact case_tf1 a0 a1 a2 w w0 w1 w2 hz hz' hl h0 n1 n2 q1 q2 q3
                | false => exact case_ff1 a0 a1 a2 w w0 w1 w2 hz hz' hl h0 n1 n2 n3 q1 q2 q3
        · have e : bt a2 0 = 0 := bt_out (by omega)
          have n1 : letB (bt a2 0) = false := by rw [e]; exact letB0
          have n2 : bt a2 0 ≠ 123 := by rw [e]; decide
          have n3 : bt a2 0 ≠ 33 := by rw [e]; decide
          cases a3 with
          | true => exact case_tf0 a0 a1 a2 w w0 w1 w2 hz hz' hl h0 n1 n2
          | false => exact case_ff0 a0 a1 a2 w w0 w1 w2 hz hz' hl h0 n1 n2 n3
  · exact case_big a0 a1 a2 a3 a4 w w0 w1 w2 (by simpa using hz)

/-! ### STEP 1: THE WALK: the Go text returns true. 'Grown w w'': the world has at most new blocks (Derived/RowKit3.lean). Part the cases AHEAD of 'go_enter' where a test parts the walk; take each callee by a contract of your own. -/
theorem walk (a0 : ByteArray) (a1 : ByteArray) (a2 : ByteArray) (a3 : Bool) (a4 : Bool) (w0 : a0.size ≤ maxLen) (w1 : a1.size ≤ maxLen) (w2 : a2.size ≤ maxLen) (w : World) :
    Calls Try.prog 4 #[.string a0, .string a1, .string a2, .bool a3, .bool a4] w fun e w' => e = .returned (.bool true) ∧ Grown w w' := by
  refine (core a0 a1 a2 a3 a4 w0 w1 w2 w).mono ?_
  rintro e w' ⟨rfl, rfl⟩
  exact ⟨rfl, Grown.refl _⟩

/-! ### THE ROW's STEP: WRITTEN OUT: LEAVE IT -/
set_option maxRecDepth 100000 in
theorem lifted (os : Os) (started : os.Started) (H : Type) (enc : TypeId × Value → H) :
    ReturnsInHanded {} Try.checked os 4 .any (Rows.fnDirectiveAtReadsWrittenNameSpec.pre6 enc Try.prog Try.f4 Rows.fnDirectiveAtReadsWrittenNameRow.domain false) (Rows.fnDirectiveAtReadsWrittenNameSpec.post enc Try.prog Try.f4 false true false false) := by
  refine returnsInHanded_of_change (C := Try.checked) own started (by kernel_rfl) Try.func4
    (ChangeSpec.witness6 (enc := enc) (C := Try.checked) false ⟨#[], #[.string ByteArray.empty, .string ByteArray.empty, .string ByteArray.empty, .bool false, .bool false], []⟩ 8 (by kernel_rfl) (by kernel_rfl) (by kernel_rfl) (by kernel_rfl)) ?_
  intro W base args ds gs before hval0 hW hcnd _
  have hval : ∀ (j : Nat) t v, Try.f4.params[j]? = some t → args[j]? = some v → Value.okWide Try.prog W .any base t v := hval0
  have hW' := hW
  obtain ⟨p, q, hA0, hV, rfl, hfz, hnd⟩ := hW
  have hA : DataW.TrodAll enc Try.prog W 0 (fun _ => true) true Try.f4.params.toList args.toList ds p := hA0
  rw [Try.params4] at hA hval
  obtain ⟨v0, vs0, d0, ds0, p0, q0, hargs, rfl, rfl, h0, r0⟩ := trodAll_cons hA
  obtain ⟨v1, vs1, d1, ds1, p1, q1, rfl, rfl, rfl, h1, r1⟩ := trodAll_cons r0
  obtain ⟨v2, vs2, d2, ds2, p2, q2, rfl, rfl, rfl, h2, r2⟩ := trodAll_cons r1
  obtain ⟨v3, vs3, d3, ds3, p3, q3, rfl, rfl, rfl, h3, r3⟩ := trodAll_cons r2
  obtain ⟨v4, vs4, d4, ds4, p4, q4, rfl, rfl, rfl, h4, r4⟩ := trodAll_cons r3
  obtain ⟨rfl, rfl, rfl⟩ := trodAll_nil r4
  obtain rfl : args = #[v0, v1, v2, v3, v4] := by cases args; simp_all
  obtain ⟨rfl, rfl⟩ := trodVars_none hV
  obtain ⟨a0, rfl, rfl, rfl, w0⟩ := open_string Try.underlying9 (hval 0 9 v0 rfl rfl) h0
  obtain ⟨a1, rfl, rfl, rfl, w1⟩ := open_string Try.underlying9 (hval 1 9 v1 rfl rfl) h1
  obtain ⟨a2, rfl, rfl, rfl, w2⟩ := open_string Try.underlying9 (hval 2 9 v2 rfl rfl) h2
  obtain ⟨a3, rfl, rfl, rfl⟩ := open_bool Try.underlying4 (hval 3 4 v3 rfl rfl) h3
  obtain ⟨a4, rfl, rfl, rfl⟩ := open_bool Try.underlying4 (hval 4 4 v4 rfl rfl) h4
  clear hA0 hval0
  simp only [List.append_nil] at hW'
  refine (walk a0 a1 a2 a3 a4 w0 w1 w2 W).mono fun e W' ⟨he, hg⟩ => ?_
  subst he
  exact ⟨_, rfl, post_of_same (pa := []) (pv := []) hW' (fun _ _ _ => (trodAll_cons_mk (shut_bool Try.underlying4 _) trodAll_mk0)) (fun sp _ => (trodAll_cons_mk (shut_string Try.underlying9 w0) (trodAll_cons_mk (shut_string Try.underlying9 w1) (trodAll_cons_mk (shut_string Try.underlying9 w2) (trodAll_cons_mk (shut_bool Try.underlying4 _) (trodAll_cons_mk (shut_bool Try.underlying4 _) trodAll_mk0)))))) (fun _ _ => rfl) rfl
    (hg.frame _) hg.2.1 (ok_one (by kernel_rfl) rfl (okWide_bool_mk Try.underlying4 _))⟩

theorem over : Rows.fnDirectiveAtReadsWrittenNameRow.holds Try.pinned (OpenSpec.ofChange Rows.fnDirectiveAtReadsWrittenNameSpec) :=
  OpenClaim.holds_of_wide 4 Try.f4 rfl rfl rfl rfl rfl rfl rfl ⟨rfl, rfl, rfl, rfl, rfl⟩ rfl rfl rfl rfl rfl (by kernel_rfl) Try.func4 (by kernel_rfl)
    (of_decide_eq_true (by kernel_rfl)) (by unfold Func.isWrapper; first | (rw [if_pos (by decide +kernel)]; kernel_rfl) | (rw [if_neg (by decide +kernel)]; exact ⟨rfl, rfl⟩))
    (fun os started H enc _ => lifted os started H enc)

/-- ████ THE STATEMENT ████ -/
theorem proved : Rows.FnDirectiveAtReadsWrittenNameSaid :=
  over
end Go.Proofs.Qxb6605398a.fnDirectiveAtReadsWrittenName
