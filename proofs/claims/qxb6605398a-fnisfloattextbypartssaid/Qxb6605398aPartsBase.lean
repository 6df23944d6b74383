import Derived.Test.Qxb6605398aParts
namespace Go.Proofs.Qxb6605398a.fnIsFloatTextByParts
open Go.RowKit

set_option maxHeartbeats 400000 in
theorem bytes16_any (a0 a1 a2 a3 : ByteArray) (b0 b1 b2 : Bool) (w : World) (w0 : a0.size ≤ maxLen) (w1 : a1.size ≤ maxLen) (w2 : a2.size ≤ maxLen) (w3 : a3.size ≤ maxLen) :
    Calls Try.prog 16 #[.string a0, .string a1, .string a2, .string a3, .bool b0, .bool b1, .bool b2] w fun e w' => e = .returned (.bool (decide (a0.size + a1.size + a2.size + a3.size ≤ 1048576))) ∧ w' = w := by
  unfold maxLen at w0 w1 w2 w3
  go_enter Try.func16, Try.ntmps16
  go_wp2
  all_goals
    go_ret
    refine ⟨ret_bool ?_, rfl⟩
    rw [eq_comm]
    simp
    omega
theorem bytes16_ok (a0 a1 a2 a3 : ByteArray) (b0 b1 b2 : Bool) (w : World) (w0 : a0.size ≤ maxLen) (w1 : a1.size ≤ maxLen) (w2 : a2.size ≤ maxLen) (w3 : a3.size ≤ maxLen) (h : Hid (a0.size + a1.size + a2.size + a3.size ≤ 1048576)) :
    Calls Try.prog 16 #[.string a0, .string a1, .string a2, .string a3, .bool b0, .bool b1, .bool b2] w fun e w' => e = .returned (.bool true) ∧ w' = w := by
  refine (bytes16_any a0 a1 a2 a3 b0 b1 b2 w w0 w1 w2 w3).mono ?_
  rintro e w' ⟨rfl, rfl⟩
  exact ⟨ret_bool (by simpa using h.out), rfl⟩
theorem size_nil : (⟨#[]⟩ : ByteArray).size = 0 := rfl
theorem toList_inj {x : ByteArray} {l : List UInt8} (h : x.toList = l) : x = ⟨l.toArray⟩ := by
  rw [ByteArray.toList_eq] at h
  subst h
  rfl

set_option maxHeartbeats 400000 in
theorem case_big (a0 a1 a2 a3 : ByteArray) (b0 b1 b2 : Bool) (w : World) (w0 : a0.size ≤ maxLen) (w1 : a1.size ≤ maxLen) (w2 : a2.size ≤ maxLen) (w3 : a3.size ≤ maxLen) (_hz' : decide (a0.size + a1.size + a2.size + a3.size ≤ 1048576) = false) :
    Calls Try.prog 6 #[.string a0, .string a1, .string a2, .string a3, .bool b0, .bool b1, .bool b2] w fun e w' => e = .returned (.bool true) ∧ w' = w := by
  unfold maxLen at w0 w1 w2 w3
  go_enter Try.func6, Try.ntmps6
  go_wp2_with (first | (go_at_call 16; refine (bytes16_any _ _ _ _ _ _ _ _ w0 w1 w2 w3).mono ?_; rintro e w' ⟨rfl, rfl⟩) | (go_at_call 17; refine (allDigits_any _ _ ?_).mono ?_; all_goals first | (unfold maxLen; omega) | (rintro e w' ⟨rfl, rfl⟩)))
  go_ret
  exact ⟨rfl, rfl⟩

set_option maxHeartbeats 400000 in
theorem case_long0 (a0 a1 a2 a3 : ByteArray) (b0 b1 b2 : Bool) (w : World) (w0 : a0.size ≤ maxLen) (w1 : a1.size ≤ maxLen) (w2 : a2.size ≤ maxLen) (w3 : a3.size ≤ maxLen) (_hz : a0.size + a1.size + a2.size + a3.size ≤ 1048576) (_hz' : decide (a0.size + a1.size + a2.size + a3.size ≤ 1048576) = true) (_g0 : 262144 < a0.size) :
    Calls Try.prog 6 #[.string a0, .string a1, .string a2, .string a3, .bool b0, .bool b1, .bool b2] w fun e w' => e = .returned (.bool true) ∧ w' = w := by
  unfold maxLen at w0 w1 w2 w3
  go_enter Try.func6, Try.ntmps6
  go_wp2_with (first | (go_at_call 16; refine (bytes16_any _ _ _ _ _ _ _ _ w0 w1 w2 w3).mono ?_; rintro e w' ⟨rfl, rfl⟩) | (go_at_call 17; refine (allDigits_any _ _ ?_).mono ?_; all_goals first | (unfold maxLen; omega) | (rintro e w' ⟨rfl, rfl⟩)))
  go_ret
  exact ⟨rfl, rfl⟩

set_option maxHeartbeats 400000 in
theorem case_long1 (a0 a1 a2 a3 : ByteArray) (b0 b1 b2 : Bool) (w : World) (w0 : a0.size ≤ maxLen) (w1 : a1.size ≤ maxLen) (w2 : a2.size ≤ maxLen) (w3 : a3.size ≤ maxLen) (_hz : a0.size + a1.size + a2.size + a3.size ≤ 1048576) (_hz' : decide (a0.size + a1.size + a2.size + a3.size ≤ 1048576) = true) (_l0 : a0.size ≤ 262144) (_g1 : 262144 < a1.size) :
    Calls Try.prog 6 #[.string a0, .string a1, .string a2, .string a3, .bool b0, .bool b1, .bool b2] w fun e w' => e = .returned (.bool true) ∧ w' = w := by
  unfold maxLen at w0 w1 w2 w3
  go_enter Try.func6, Try.ntmps6
  go_wp2_with (first | (go_at_call 16; refine (bytes16_any _ _ _ _ _ _ _ _ w0 w1 w2 w3).mono ?_; rintro e w' ⟨rfl, rfl⟩) | (go_at_call 17; refine (allDigits_any _ _ ?_).mono ?_; all_goals first | (unfold maxLen; omega) | (rintro e w' ⟨rfl, rfl⟩)))
  go_ret
  exact ⟨rfl, rfl⟩

set_option maxHeartbeats 400000 in
theorem case_long2 (a0 a1 a2 a3 : ByteArray) (b0 b1 b2 : Bool) (w : World) (w0 : a0.size ≤ maxLen) (w1 : a1.size ≤ maxLen) (w2 : a2.size ≤ maxLen) (w3 : a3.size ≤ maxLen) (_hz : a0.size + a1.size + a2.size + a3.size ≤ 1048576) (_hz' : decide (a0.size + a1.size + a2.size + a3.size ≤ 1048576) = true) (_l0 : a0.size ≤ 262144) (_l1 : a1.size ≤ 262144) (_g2 : 262144 < a2.size) :
    Calls Try.prog 6 #[.string a0, .string a1, .string a2, .string a3, .bool b0, .bool b1, .bool b2] w fun e w' => e = .returned (.bool true) ∧ w' = w := by
  unfold maxLen at w0 w1 w2 w3
  go_enter Try.func6, Try.ntmps6
  go_wp2_with (first | (go_at_call 16; refine (bytes16_any _ _ _ _ _ _ _ _ w0 w1 w2 w3).mono ?_; rintro e w' ⟨rfl, rfl⟩) | (go_at_call 17; refine (allDigits_any _ _ ?_).mono ?_; all_goals first | (unfold maxLen; omega) | (rintro e w' ⟨rfl, rfl⟩)))
  go_ret
  exact ⟨rfl, rfl⟩

set_option maxHeartbeats 400000 in
theorem case_long3 (a0 a1 a2 a3 : ByteArray) (b0 b1 b2 : Bool) (w : World) (w0 : a0.size ≤ maxLen) (w1 : a1.size ≤ maxLen) (w2 : a2.size ≤ maxLen) (w3 : a3.size ≤ maxLen) (_hz : a0.size + a1.size + a2.size + a3.size ≤ 1048576) (_hz' : decide (a0.size + a1.size + a2.size + a3.size ≤ 1048576) = true) (_l0 : a0.size ≤ 262144) (_l1 : a1.size ≤ 262144) (_l2 : a2.size ≤ 262144) (_g3 : 262144 < a3.size) :
    Calls Try.prog 6 #[.string a0, .string a1, .string a2, .string a3, .bool b0, .bool b1, .bool b2] w fun e w' => e = .returned (.bool true) ∧ w' = w := by
  unfold maxLen at w0 w1 w2 w3
  go_enter Try.func6, Try.ntmps6
  go_wp2_with (first | (go_at_call 16; refine (bytes16_any _ _ _ _ _ _ _ _ w0 w1 w2 w3).mono ?_; rintro e w' ⟨rfl, rfl⟩) | (go_at_call 17; refine (allDigits_any _ _ ?_).mono ?_; all_goals first | (unfold maxLen; omega) | (rintro e w' ⟨rfl, rfl⟩)))
  go_ret
  exact ⟨rfl, rfl⟩

set_option maxHeartbeats 400000 in
theorem case_dig0 (a0 a1 a2 a3 : ByteArray) (b0 b1 b2 : Bool) (w : World) (w0 : a0.size ≤ maxLen) (w1 : a1.size ≤ maxLen) (w2 : a2.size ≤ maxLen) (w3 : a3.size ≤ maxLen) (_hz : a0.size + a1.size + a2.size + a3.size ≤ 1048576) (_hz' : decide (a0.size + a1.size + a2.size + a3.size ≤ 1048576) = true) (_l0 : a0.size ≤ 262144) (_l1 : a1.size ≤ 262144) (_l2 : a2.size ≤ 262144) (_l3 : a3.size ≤ 262144) (_d0 : allB digB a0 = false) :
    Calls Try.prog 6 #[.string a0, .string a1, .string a2, .string a3, .bool b0, .bool b1, .bool b2] w fun e w' => e = .returned (.bool true) ∧ w' = w := by
  unfold maxLen at w0 w1 w2 w3
  go_enter Try.func6, Try.ntmps6
  go_wp2_with (first | (go_at_call 16; refine (bytes16_any _ _ _ _ _ _ _ _ w0 w1 w2 w3).mono ?_; rintro e w' ⟨rfl, rfl⟩) | (go_at_call 17; refine (allDigits_any _ _ ?_).mono ?_; all_goals first | (unfold maxLen; omega) | (rintro e w' ⟨rfl, rfl⟩)))
  go_ret
  exact ⟨rfl, rfl⟩

set_option maxHeartbeats 400000 in
theorem case_dig1 (a0 a1 a2 a3 : ByteArray) (b0 b1 b2 : Bool) (w : World) (w0 : a0.size ≤ maxLen) (w1 : a1.size ≤ maxLen) (w2 : a2.size ≤ maxLen) (w3 : a3.size ≤ maxLen) (_hz : a0.size + a1.size + a2.size + a3.size ≤ 1048576) (_hz' : decide (a0.size + a1.size + a2.size + a3.size ≤ 1048576) = true) (_l0 : a0.size ≤ 262144) (_l1 : a1.size ≤ 262144) (_l2 : a2.size ≤ 262144) (_l3 : a3.size ≤ 262144) (_d0 : allB digB a0 = true) (_d1 : allB digB a1 = false) :
    Calls Try.prog 6 #[.string a0, .string a1, .string a2, .string a3, .bool b0, .bool b1, .bool b2] w fun e w' => e = .returned (.bool true) ∧ w' = w := by
  unfold maxLen at w0 w1 w2 w3
  go_enter Try.func6, Try.ntmps6
  go_wp2_with (first | (go_at_call 16; refine (bytes16_any _ _ _ _ _ _ _ _ w0 w1 w2 w3).mono ?_; rintro e w' ⟨rfl, rfl⟩) | (go_at_call 17; refine (allDigits_any _ _ ?_).mono ?_; all_goals first | (unfold maxLen; omega) | (rintro e w' ⟨rfl, rfl⟩)))
  go_ret
  exact ⟨rfl, rfl⟩

set_option maxHeartbeats 400000 in
theorem case_dig3 (a0 a1 a2 a3 : ByteArray) (b0 b1 b2 : Bool) (w : World) (w0 : a0.size ≤ maxLen) (w1 : a1.size ≤ maxLen) (w2 : a2.size ≤ maxLen) (w3 : a3.size ≤ maxLen) (_hz : a0.size + a1.size + a2.size + a3.size ≤ 1048576) (_hz' : decide (a0.size + a1.size + a2.size + a3.size ≤ 1048576) = true) (_l0 : a0.size ≤ 262144) (_l1 : a1.size ≤ 262144) (_l2 : a2.size ≤ 262144) (_l3 : a3.size ≤ 262144) (_d0 : allB digB a0 = true) (_d1 : allB digB a1 = true) (_d3 : allB digB a3 = false) :
    Calls Try.prog 6 #[.string a0, .string a1, .string a2, .string a3, .bool b0, .bool b1, .bool b2] w fun e w' => e = .returned (.bool true) ∧ w' = w := by
  unfold maxLen at w0 w1 w2 w3
  go_enter Try.func6, Try.ntmps6
  go_wp2_with (first | (go_at_call 16; refine (bytes16_any _ _ _ _ _ _ _ _ w0 w1 w2 w3).mono ?_; rintro e w' ⟨rfl, rfl⟩) | (go_at_call 17; refine (allDigits_any _ _ ?_).mono ?_; all_goals first | (unfold maxLen; omega) | (rintro e w' ⟨rfl, rfl⟩)))
  go_ret
  exact ⟨rfl, rfl⟩

set_option maxHeartbeats 400000 in
theorem case_sign (a0 a1 a2 a3 : ByteArray) (b0 b1 b2 : Bool) (w : World) (w0 : a0.size ≤ maxLen) (w1 : a1.size ≤ maxLen) (w2 : a2.size ≤ maxLen) (w3 : a3.size ≤ maxLen) (_hz : a0.size + a1.size + a2.size + a3.size ≤ 1048576) (_hz' : decide (a0.size + a1.size + a2.size + a3.size ≤ 1048576) = true) (_l0 : a0.size ≤ 262144) (_l1 : a1.size ≤ 262144) (_l2 : a2.size ≤ 262144) (_l3 : a3.size ≤ 262144) (_d0 : allB digB a0 = true) (_d1 : allB digB a1 = true) (_d3 : allB digB a3 = true) (_n0 : a2.toList.isEmpty = false) (_n1 : (a2.toList == [43]) = false) (_n2 : (a2.toList == [45]) = false) (_m0 : ¬ a2.toList = []) (_m1 : ¬ a2.toList = [43]) :
    Calls Try.prog 6 #[.string a0, .string a1, .string a2, .string a3, .bool b0, .bool b1, .bool b2] w fun e w' => e = .returned (.bool true) ∧ w' = w := by
  unfold maxLen at w0 w1 w2 w3
  go_enter Try.func6, Try.ntmps6
  go_wp2_with (first | (go_at_call 16; refine (bytes16_any _ _ _ _ _ _ _ _ w0 w1 w2 w3).mono ?_; rintro e w' ⟨rfl, rfl⟩) | (go_at_call 17; refine (allDigits_any _ _ ?_).mono ?_; all_goals first | (unfold maxLen; omega) | (rintro e w' ⟨rfl, rfl⟩)))
  go_ret
  exact ⟨rfl, rfl⟩

theorem wv {W F D : Nat} {p e v : Bool} (h : (((decide (0 < W)) || (p && decide (0 < F))) && ((!e) || decide (0 < D))) = v) : wantB W F D p e = v := by
  rw [← h, Bool.eq_iff_iff]; unfold wantB; simp

end Go.Proofs.Qxb6605398a.fnIsFloatTextByParts
