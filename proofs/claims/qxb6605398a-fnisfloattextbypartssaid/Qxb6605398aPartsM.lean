import Derived.Test.Qxb6605398aPartsBase
namespace Go.Proofs.Qxb6605398a.fnIsFloatTextByParts
open Go.RowKit

theorem flo_tnm (a0 a1 a3 : ByteArray) (w : World) (_l0 : a0.size ≤ 262144) (_l1 : a1.size ≤ 262144) (_l3 : a3.size ≤ 262144) (d0 : allB digB a0 = true) (d1 : allB digB a1 = true) (_d3 : allB digB a3 = true) :
    Calls Try.prog 14 #[.string (a0 ++ (⟨#[46]⟩ ++ a1))] w fun e w' => e = .returned (.bool (wantB a0.size a1.size a3.size true false)) ∧ w' = w := by
  refine (zzfloat_any _ _ (by simp only [ByteArray.size_append, size_one, maxLen]; omega)).mono ?_
  rintro e w1 ⟨b, rfl, hb, rfl⟩
  exact ⟨ret_bool (parts_tf (D := a3.size) d0 d1 hb), rfl⟩

set_option maxHeartbeats 400000 in
theorem main_tnm_W (a0 a1 a3 : ByteArray) (b2 : Bool) (w : World) (w0 : a0.size ≤ maxLen) (w1 : a1.size ≤ maxLen) (w2 : (⟨#[45]⟩ : ByteArray).size ≤ maxLen) (w3 : a3.size ≤ maxLen) (hz : a0.size + a1.size + (⟨#[45]⟩ : ByteArray).size + a3.size ≤ 1048576) (_l0 : a0.size ≤ 262144) (_l1 : a1.size ≤ 262144) (_l3 : a3.size ≤ 262144) (d0 : allB digB a0 = true) (d1 : allB digB a1 = true) (_d3 : allB digB a3 = true) (_p : 0 < a0.size) (_hv : wantB a0.size a1.size a3.size true false = true) :
    Calls Try.prog 6 #[.string a0, .string a1, .string (⟨#[45]⟩ : ByteArray), .string a3, .bool true, .bool false, .bool b2] w fun e w' => e = .returned (.bool true) ∧ w' = w := by
  unfold maxLen at w0 w1 w2 w3
  have HZ : Hid (_) := hz
  clear hz
  go_enter Try.func6, Try.ntmps6
  go_wp2_with (first | (go_at_call 16; refine (bytes16_ok _ _ _ _ _ _ _ _ w0 w1 w2 w3 HZ).mono ?_; rintro e w' ⟨rfl, rfl⟩) | (go_at_call 17; refine (allDigits_any _ _ ?_).mono ?_; all_goals first | (unfold maxLen; omega) | (rintro e w' ⟨rfl, rfl⟩)) | (go_at_call 14; refine (flo_tnm a0 a1 a3 _ _l0 _l1 _l3 d0 d1 _d3).mono ?_; rintro e w1 ⟨rfl, rfl⟩))
  go_ret
  exact ⟨rfl, rfl⟩

set_option maxHeartbeats 400000 in
theorem main_tnm_F (a0 a1 a3 : ByteArray) (b2 : Bool) (w : World) (w0 : a0.size ≤ maxLen) (w1 : a1.size ≤ maxLen) (w2 : (⟨#[45]⟩ : ByteArray).size ≤ maxLen) (w3 : a3.size ≤ maxLen) (hz : a0.size + a1.size + (⟨#[45]⟩ : ByteArray).size + a3.size ≤ 1048576) (_l0 : a0.size ≤ 262144) (_l1 : a1.size ≤ 262144) (_l3 : a3.size ≤ 262144) (d0 : allB digB a0 = true) (d1 : allB digB a1 = true) (_d3 : allB digB a3 = true) (_p : ¬ 0 < a0.size) (_q : 0 < a1.size) (_hv : wantB a0.size a1.size a3.size true false = true) :
    Calls Try.prog 6 #[.string a0, .string a1, .string (⟨#[45]⟩ : ByteArray), .string a3, .bool true, .bool false, .bool b2] w fun e w' => e = .returned (.bool true) ∧ w' = w := by
  unfold maxLen at w0 w1 w2 w3
  have HZ : Hid (_) := hz
  clear hz
  go_enter Try.func6, Try.ntmps6
  go_wp2_with (first | (go_at_call 16; refine (bytes16_ok _ _ _ _ _ _ _ _ w0 w1 w2 w3 HZ).mono ?_; rintro e w' ⟨rfl, rfl⟩) | (go_at_call 17; refine (allDigits_any _ _ ?_).mono ?_; all_goals first | (unfold maxLen; omega) | (rintro e w' ⟨rfl, rfl⟩)) | (go_at_call 14; refine (flo_tnm a0 a1 a3 _ _l0 _l1 _l3 d0 d1 _d3).mono ?_; rintro e w1 ⟨rfl, rfl⟩))
  go_ret
  exact ⟨rfl, rfl⟩

set_option maxHeartbeats 400000 in
theorem main_tnm_Z (a0 a1 a3 : ByteArray) (b2 : Bool) (w : World) (w0 : a0.size ≤ maxLen) (w1 : a1.size ≤ maxLen) (w2 : (⟨#[45]⟩ : ByteArray).size ≤ maxLen) (w3 : a3.size ≤ maxLen) (hz : a0.size + a1.size + (⟨#[45]⟩ : ByteArray).size + a3.size ≤ 1048576) (_l0 : a0.size ≤ 262144) (_l1 : a1.size ≤ 262144) (_l3 : a3.size ≤ 262144) (d0 : allB digB a0 = true) (d1 : allB digB a1 = true) (_d3 : allB digB a3 = true) (_p : ¬ 0 < a0.size) (_q : ¬ 0 < a1.size) (_hv : wantB a0.size a1.size a3.size true false = false) :
    Calls Try.prog 6 #[.string a0, .string a1, .string (⟨#[45]⟩ : ByteArray), .string a3, .bool true, .bool false, .bool b2] w fun e w' => e = .returned (.bool true) ∧ w' = w := by
  unfold maxLen at w0 w1 w2 w3
  have HZ : Hid (_) := hz
  clear hz
  go_enter Try.func6, Try.ntmps6
  go_wp2_with (first | (go_at_call 16; refine (bytes16_ok _ _ _ _ _ _ _ _ w0 w1 w2 w3 HZ).mono ?_; rintro e w' ⟨rfl, rfl⟩) | (go_at_call 17; refine (allDigits_any _ _ ?_).mono ?_; all_goals first | (unfold maxLen; omega) | (rintro e w' ⟨rfl, rfl⟩)) | (go_at_call 14; refine (flo_tnm a0 a1 a3 _ _l0 _l1 _l3 d0 d1 _d3).mono ?_; rintro e w1 ⟨rfl, rfl⟩))
  go_ret
  exact ⟨rfl, rfl⟩

theorem main_tnm (a0 a1 a3 : ByteArray) (b2 : Bool) (w : World) (w0 : a0.size ≤ maxLen) (w1 : a1.size ≤ maxLen) (w2 : (⟨#[45]⟩ : ByteArray).size ≤ maxLen) (w3 : a3.size ≤ maxLen) (hz : a0.size + a1.size + (⟨#[45]⟩ : ByteArray).size + a3.size ≤ 1048576) (_l0 : a0.size ≤ 262144) (_l1 : a1.size ≤ 262144) (_l3 : a3.size ≤ 262144) (d0 : allB digB a0 = true) (d1 : allB digB a1 = true) (_d3 : allB digB a3 = true) :
    Calls Try.prog 6 #[.string a0, .string a1, .string (⟨#[45]⟩ : ByteArray), .string a3, .bool true, .bool false, .bool b2] w fun e w' => e = .returned (.bool true) ∧ w' = w := by
  by_cases p : 0 < a0.size
  · exact main_tnm_W a0 a1 a3 b2 w w0 w1 w2 w3 hz _l0 _l1 _l3 d0 d1 _d3 p (wv (by simp [*]))
  · by_cases q : 0 < a1.size
    · exact main_tnm_F a0 a1 a3 b2 w w0 w1 w2 w3 hz _l0 _l1 _l3 d0 d1 _d3 p q (wv (by simp [*]))
    · exact main_tnm_Z a0 a1 a3 b2 w w0 w1 w2 w3 hz _l0 _l1 _l3 d0 d1 _d3 p q (wv (by simp [*]))

theorem flo_tum (a0 a1 a3 : ByteArray) (w : World) (_l0 : a0.size ≤ 262144) (_l1 : a1.size ≤ 262144) (_l3 : a3.size ≤ 262144) (d0 : allB digB a0 = true) (d1 : allB digB a1 = true) (d3 : allB digB a3 = true) :
    Calls Try.prog 14 #[.string (a0 ++ (⟨#[46]⟩ ++ a1) ++ ⟨#[69]⟩ ++ (⟨#[45]⟩ ++ a3))] w fun e w' => e = .returned (.bool (wantB a0.size a1.size a3.size true true)) ∧ w' = w := by
  refine (zzfloat_any _ _ (by simp only [ByteArray.size_append, size_one, maxLen]; omega)).mono ?_
  rintro e w1 ⟨b, rfl, hb, rfl⟩
  exact ⟨ret_bool (parts_tt d0 d1 (Or.inr rfl) (Or.inr (Or.inr rfl)) d3 hb), rfl⟩

set_option maxHeartbeats 400000 in
theorem main_tum_WD (a0 a1 a3 : ByteArray) (w : World) (w0 : a0.size ≤ maxLen) (w1 : a1.size ≤ maxLen) (w2 : (⟨#[45]⟩ : ByteArray).size ≤ maxLen) (w3 : a3.size ≤ maxLen) (hz : a0.size + a1.size + (⟨#[45]⟩ : ByteArray).size + a3.size ≤ 1048576) (_l0 : a0.size ≤ 262144) (_l1 : a1.size ≤ 262144) (_l3 : a3.size ≤ 262144) (d0 : allB digB a0 = true) (d1 : allB digB a1 = true) (d3 : allB digB a3 = true) (_p : 0 < a0.size) (_r : 0 < a3.size) (_hv : wantB a0.size a1.size a3.size true true = true) :
    Calls Try.prog 6 #[.string a0, .string a1, .string (⟨#[45]⟩ : ByteArray), .string a3, .bool true, .bool true, .bool true] w fun e w' => e = .returned (.bool true) ∧ w' = w := by
  unfold maxLen at w0 w1 w2 w3
  have HZ : Hid (_) := hz
  clear hz
  go_enter Try.func6, Try.ntmps6
  go_wp2_with (first | (go_at_call 16; refine (bytes16_ok _ _ _ _ _ _ _ _ w0 w1 w2 w3 HZ).mono ?_; rintro e w' ⟨rfl, rfl⟩) | (go_at_call 17; refine (allDigits_any _ _ ?_).mono ?_; all_goals first | (unfold maxLen; omega) | (rintro e w' ⟨rfl, rfl⟩)) | (go_at_call 14; refine (flo_tum a0 a1 a3 _ _l0 _l1 _l3 d0 d1 d3).mono ?_; rintro e w1 ⟨rfl, rfl⟩))
  go_ret
  exact ⟨rfl, rfl⟩

set_option maxHeartbeats 400000 in
theorem main_tum_WN (a0 a1 a3 : ByteArray) (w : World) (w0 : a0.size ≤ maxLen) (w1 : a1.size ≤ maxLen) (w2 : (⟨#[45]⟩ : ByteArray).size ≤ maxLen) (w3 : a3.size ≤ maxLen) (hz : a0.size + a1.size + (⟨#[45]⟩ : ByteArray).size + a3.size ≤ 1048576) (_l0 : a0.size ≤ 262144) (_l1 : a1.size ≤ 262144) (_l3 : a3.size ≤ 262144) (d0 : allB digB a0 = true) (d1 : allB digB a1 = true) (d3 : allB digB a3 = true) (_p : 0 < a0.size) (_r : ¬ 0 < a3.size) (_hv : wantB a0.size a1.size a3.size true true = false) :
    Calls Try.prog 6 #[.string a0, .string a1, .string (⟨#[45]⟩ : ByteArray), .string a3, .bool true, .bool true, .bool true] w fun e w' => e = .returned (.bool true) ∧ w' = w := by
  unfold maxLen at w0 w1 w2 w3
  have HZ : Hid (_) := hz
  clear hz
  go_enter Try.func6, Try.ntmps6
  go_wp2_with (first | (go_at_call 16; refine (bytes16_ok _ _ _ _ _ _ _ _ w0 w1 w2 w3 HZ).mono ?_; rintro e w' ⟨rfl, rfl⟩) | (go_at_call 17; refine (allDigits_any _ _ ?_).mono ?_; all_goals first | (unfold maxLen; omega) | (rintro e w' ⟨rfl, rfl⟩)) | (go_at_call 14; refine (flo_tum a0 a1 a3 _ _l0 _l1 _l3 d0 d1 d3).mono ?_; rintro e w1 ⟨rfl, rfl⟩))
  go_ret
  exact ⟨rfl, rfl⟩

set_option maxHeartbeats 400000 in
theorem main_tum_FD (a0 a1 a3 : ByteArray) (w : World) (w0 : a0.size ≤ maxLen) (w1 : a1.size ≤ maxLen) (w2 : (⟨#[45]⟩ : ByteArray).size ≤ maxLen) (w3 : a3.size ≤ maxLen) (hz : a0.size + a1.size + (⟨#[45]⟩ : ByteArray).size + a3.size ≤ 1048576) (_l0 : a0.size ≤ 262144) (_l1 : a1.size ≤ 262144) (_l3 : a3.size ≤ 262144) (d0 : allB digB a0 = true) (d1 : allB digB a1 = true) (d3 : allB digB a3 = true) (_p : ¬ 0 < a0.size) (_q : 0 < a1.size) (_r : 0 < a3.size) (_hv : wantB a0.size a1.size a3.size true true = true) :
    Calls Try.prog 6 #[.string a0, .string a1, .string (⟨#[45]⟩ : ByteArray), .string a3, .bool true, .bool true, .bool true] w fun e w' => e = .returned (.bool true) ∧ w' = w := by
  unfold maxLen at w0 w1 w2 w3
  have HZ : Hid (_) := hz
  clear hz
  go_enter Try.func6, Try.ntmps6
  go_wp2_with (first | (go_at_call 16; refine (bytes16_ok _ _ _ _ _ _ _ _ w0 w1 w2 w3 HZ).mono ?_; rintro e w' ⟨rfl, rfl⟩) | (go_at_call 17; refine (allDigits_any _ _ ?_).mono ?_; all_goals first | (unfold maxLen; omega) | (rintro e w' ⟨rfl, rfl⟩)) | (go_at_call 14; refine (flo_tum a0 a1 a3 _ _l0 _l1 _l3 d0 d1 d3).mono ?_; rintro e w1 ⟨rfl, rfl⟩))
  go_ret
  exact ⟨rfl, rfl⟩

set_option maxHeartbeats 400000 in
theorem main_tum_FN (a0 a1 a3 : ByteArray) (w : World) (w0 : a0.size ≤ maxLen) (w1 : a1.size ≤ maxLen) (w2 : (⟨#[45]⟩ : ByteArray).size ≤ maxLen) (w3 : a3.size ≤ maxLen) (hz : a0.size + a1.size + (⟨#[45]⟩ : ByteArray).size + a3.size ≤ 1048576) (_l0 : a0.size ≤ 262144) (_l1 : a1.size ≤ 262144) (_l3 : a3.size ≤ 262144) (d0 : allB digB a0 = true) (d1 : allB digB a1 = true) (d3 : allB digB a3 = true) (_p : ¬ 0 < a0.size) (_q : 0 < a1.size) (_r : ¬ 0 < a3.size) (_hv : wantB a0.size a1.size a3.size true true = false) :
    Calls Try.prog 6 #[.string a0, .string a1, .string (⟨#[45]⟩ : ByteArray), .string a3, .bool true, .bool true, .bool true] w fun e w' => e = .returned (.bool true) ∧ w' = w := by
  unfold maxLen at w0 w1 w2 w3
  have HZ : Hid (_) := hz
  clear hz
  go_enter Try.func6, Try.ntmps6
  go_wp2_with (first | (go_at_call 16; refine (bytes16_ok _ _ _ _ _ _ _ _ w0 w1 w2 w3 HZ).mono ?_; rintro e w' ⟨rfl, rfl⟩) | (go_at_call 17; refine (allDigits_any _ _ ?_).mono ?_; all_goals first | (unfold maxLen; omega) | (rintro e w' ⟨rfl, rfl⟩)) | (go_at_call 14; refine (flo_tum a0 a1 a3 _ _l0 _l1 _l3 d0 d1 d3).mono ?_; rintro e w1 ⟨rfl, rfl⟩))
  go_ret
  exact ⟨rfl, rfl⟩

set_option maxHeartbeats 400000 in
theorem main_tum_Z (a0 a1 a3 : ByteArray) (w : World) (w0 : a0.size ≤ maxLen) (w1 : a1.size ≤ maxLen) (w2 : (⟨#[45]⟩ : ByteArray).size ≤ maxLen) (w3 : a3.size ≤ maxLen) (hz : a0.size + a1.size + (⟨#[45]⟩ : ByteArray).size + a3.size ≤ 1048576) (_l0 : a0.size ≤ 262144) (_l1 : a1.size ≤ 262144) (_l3 : a3.size ≤ 262144) (d0 : allB digB a0 = true) (d1 : allB digB a1 = true) (d3 : allB digB a3 = true) (_p : ¬ 0 < a0.size) (_q : ¬ 0 < a1.size) (_hv : wantB a0.size a1.size a3.size true true = false) :
    Calls Try.prog 6 #[.string a0, .string a1, .string (⟨#[45]⟩ : ByteArray), .string a3, .bool true, .bool true, .bool true] w fun e w' => e = .returned (.bool true) ∧ w' = w := by
  unfold maxLen at w0 w1 w2 w3
  have HZ : Hid (_) := hz
  clear hz
  go_enter Try.func6, Try.ntmps6
  go_wp2_with (first | (go_at_call 16; refine (bytes16_ok _ _ _ _ _ _ _ _ w0 w1 w2 w3 HZ).mono ?_; rintro e w' ⟨rfl, rfl⟩) | (go_at_call 17; refine (allDigits_any _ _ ?_).mono ?_; all_goals first | (unfold maxLen; omega) | (rintro e w' ⟨rfl, rfl⟩)) | (go_at_call 14; refine (flo_tum a0 a1 a3 _ _l0 _l1 _l3 d0 d1 d3).mono ?_; rintro e w1 ⟨rfl, rfl⟩))
  go_ret
  exact ⟨rfl, rfl⟩

theorem main_tum (a0 a1 a3 : ByteArray) (w : World) (w0 : a0.size ≤ maxLen) (w1 : a1.size ≤ maxLen) (w2 : (⟨#[45]⟩ : ByteArray).size ≤ maxLen) (w3 : a3.size ≤ maxLen) (hz : a0.size + a1.size + (⟨#[45]⟩ : ByteArray).size + a3.size ≤ 1048576) (_l0 : a0.size ≤ 262144) (_l1 : a1.size ≤ 262144) (_l3 : a3.size ≤ 262144) (d0 : allB digB a0 = true) (d1 : allB digB a1 = true) (d3 : allB digB a3 = true) :
    Calls Try.prog 6 #[.string a0, .string a1, .string (⟨#[45]⟩ : ByteArray), .string a3, .bool true, .bool true, .bool true] w fun e w' => e = .returned (.bool true) ∧ w' = w := by
  by_cases p : 0 < a0.size
  · by_cases r : 0 < a3.size
    · exact main_tum_WD a0 a1 a3 w w0 w1 w2 w3 hz _l0 _l1 _l3 d0 d1 d3 p r (wv (by simp [*]))
    · exact main_tum_WN a0 a1 a3 w w0 w1 w2 w3 hz _l0 _l1 _l3 d0 d1 d3 p r (wv (by simp [*]))
  · by_cases q : 0 < a1.size
    · by_cases r : 0 < a3.size
      · exact main_tum_FD a0 a1 a3 w w0 w1 w2 w3 hz _l0 _l1 _l3 d0 d1 d3 p q r (wv (by simp [*]))
      · exact main_tum_FN a0 a1 a3 w w0 w1 w2 w3 hz _l0 _l1 _l3 d0 d1 d3 p q r (wv (by simp [*]))
    · exact main_tum_Z a0 a1 a3 w w0 w1 w2 w3 hz _l0 _l1 _l3 d0 d1 d3 p q (wv (by simp [*]))

theorem flo_tlm (a0 a1 a3 : ByteArray) (w : World) (_l0 : a0.size ≤ 262144) (_l1 : a1.size ≤ 262144) (_l3 : a3.size ≤ 262144) (d0 : allB digB a0 = true) (d1 : allB digB a1 = true) (d3 : allB digB a3 = true) :
    Calls Try.prog 14 #[.string (a0 ++ (⟨#[46]⟩ ++ a1) ++ ⟨#[101]⟩ ++ (⟨#[45]⟩ ++ a3))] w fun e w' => e = .returned (.bool (wantB a0.size a1.size a3.size true true)) ∧ w' = w := by
  refine (zzfloat_any _ _ (by simp only [ByteArray.size_append, size_one, maxLen]; omega)).mono ?_
  rintro e w1 ⟨b, rfl, hb, rfl⟩
  exact ⟨ret_bool (parts_tt d0 d1 (Or.inl rfl) (Or.inr (Or.inr rfl)) d3 hb), rfl⟩

set_option maxHeartbeats 400000 in
theorem main_tlm_WD (a0 a1 a3 : ByteArray) (w : World) (w0 : a0.size ≤ maxLen) (w1 : a1.size ≤ maxLen) (w2 : (⟨#[45]⟩ : ByteArray).size ≤ maxLen) (w3 : a3.size ≤ maxLen) (hz : a0.size + a1.size + (⟨#[45]⟩ : ByteArray).size + a3.size ≤ 1048576) (_l0 : a0.size ≤ 262144) (_l1 : a1.size ≤ 262144) (_l3 : a3.size ≤ 262144) (d0 : allB digB a0 = true) (d1 : allB digB a1 = true) (d3 : allB digB a3 = true) (_p : 0 < a0.size) (_r : 0 < a3.size) (_hv : wantB a0.size a1.size a3.size true true = true) :
    Calls Try.prog 6 #[.string a0, .string a1, .string (⟨#[45]⟩ : ByteArray), .string a3, .bool true, .bool true, .bool false] w fun e w' => e = .returned (.bool true) ∧ w' = w := by
  unfold maxLen at w0 w1 w2 w3
  have HZ : Hid (_) := hz
  clear hz
  go_enter Try.func6, Try.ntmps6
  go_wp2_with (first | (go_at_call 16; refine (bytes16_ok _ _ _ _ _ _ _ _ w0 w1 w2 w3 HZ).mono ?_; rintro e w' ⟨rfl, rfl⟩) | (go_at_call 17; refine (allDigits_any _ _ ?_).mono ?_; all_goals first | (unfold maxLen; omega) | (rintro e w' ⟨rfl, rfl⟩)) | (go_at_call 14; refine (flo_tlm a0 a1 a3 _ _l0 _l1 _l3 d0 d1 d3).mono ?_; rintro e w1 ⟨rfl, rfl⟩))
  go_ret
  exact ⟨rfl, rfl⟩

set_option maxHeartbeats 400000 in
theorem main_tlm_WN (a0 a1 a3 : ByteArray) (w : World) (w0 : a0.size ≤ maxLen) (w1 : a1.size ≤ maxLen) (w2 : (⟨#[45]⟩ : ByteArray).size ≤ maxLen) (w3 : a3.size ≤ maxLen) (hz : a0.size + a1.size + (⟨#[45]⟩ : ByteArray).size + a3.size ≤ 1048576) (_l0 : a0.size ≤ 262144) (_l1 : a1.size ≤ 262144) (_l3 : a3.size ≤ 262144) (d0 : allB digB a0 = true) (d1 : allB digB a1 = true) (d3 : allB digB a3 = true) (_p : 0 < a0.size) (_r : ¬ 0 < a3.size) (_hv : wantB a0.size a1.size a3.size true true = false) :
    Calls Try.prog 6 #[.string a0, .string a1, .string (⟨#[45]⟩ : ByteArray), .string a3, .bool true, .bool true, .bool false] w fun e w' => e = .returned (.bool true) ∧ w' = w := by
  unfold maxLen at w0 w1 w2 w3
  have HZ : Hid (_) := hz
  clear hz
  go_enter Try.func6, Try.ntmps6
  go_wp2_with (first | (go_at_call 16; refine (bytes16_ok _ _ _ _ _ _ _ _ w0 w1 w2 w3 HZ).mono ?_; rintro e w' ⟨rfl, rfl⟩) | (go_at_call 17; refine (allDigits_any _ _ ?_).mono ?_; all_goals first | (unfold maxLen; omega) | (rintro e w' ⟨rfl, rfl⟩)) | (go_at_call 14; refine (flo_tlm a0 a1 a3 _ _l0 _l1 _l3 d0 d1 d3).mono ?_; rintro e w1 ⟨rfl, rfl⟩))
  go_ret
  exact ⟨rfl, rfl⟩

set_option maxHeartbeats 400000 in
theorem main_tlm_FD (a0 a1 a3 : ByteArray) (w : World) (w0 : a0.size ≤ maxLen) (w1 : a1.size ≤ maxLen) (w2 : (⟨#[45]⟩ : ByteArray).size ≤ maxLen) (w3 : a3.size ≤ maxLen) (hz : a0.size + a1.size + (⟨#[45]⟩ : ByteArray).size + a3.size ≤ 1048576) (_l0 : a0.size ≤ 262144) (_l1 : a1.size ≤ 262144) (_l3 : a3.size ≤ 262144) (d0 : allB digB a0 = true) (d1 : allB digB a1 = true) (d3 : allB digB a3 = true) (_p : ¬ 0 < a0.size) (_q : 0 < a1.size) (_r : 0 < a3.size) (_hv : wantB a0.size a1.size a3.size true true = true) :
    Calls Try.prog 6 #[.string a0, .string a1, .string (⟨#[45]⟩ : ByteArray), .string a3, .bool true, .bool true, .bool false] w fun e w' => e = .returned (.bool true) ∧ w' = w := by
  unfold maxLen at w0 w1 w2 w3
  have HZ : Hid (_) := hz
  clear hz
  go_enter Try.func6, Try.ntmps6
  go_wp2_with (first | (go_at_call 16; refine (bytes16_ok _ _ _ _ _ _ _ _ w0 w1 w2 w3 HZ).mono ?_; rintro e w' ⟨rfl, rfl⟩) | (go_at_call 17; refine (allDigits_any _ _ ?_).mono ?_; all_goals first | (unfold maxLen; omega) | (rintro e w' ⟨rfl, rfl⟩)) | (go_at_call 14; refine (flo_tlm a0 a1 a3 _ _l0 _l1 _l3 d0 d1 d3).mono ?_; rintro e w1 ⟨rfl, rfl⟩))
  go_ret
  exact ⟨rfl, rfl⟩

set_option maxHeartbeats 400000 in
theorem main_tlm_FN (a0 a1 a3 : ByteArray) (w : World) (w0 : a0.size ≤ maxLen) (w1 : a1.size ≤ maxLen) (w2 : (⟨#[45]⟩ : ByteArray).size ≤ maxLen) (w3 : a3.size ≤ maxLen) (hz : a0.size + a1.size + (⟨#[45]⟩ : ByteArray).size + a3.size ≤ 1048576) (_l0 : a0.size ≤ 262144) (_l1 : a1.size ≤ 262144) (_l3 : a3.size ≤ 262144) (d0 : allB digB a0 = true) (d1 : allB digB a1 = true) (d3 : allB digB a3 = true) (_p : ¬ 0 < a0.size) (_q : 0 < a1.size) (_r : ¬ 0 < a3.size) (_hv : wantB a0.size a1.size a3.size true true = false) :
    Calls Try.prog 6 #[.string a0, .string a1, .string (⟨#[45]⟩ : ByteArray), .string a3, .bool true, .bool true, .bool false] w fun e w' => e = .returned (.bool true) ∧ w' = w := by
  unfold maxLen at w0 w1 w2 w3
  have HZ : Hid (_) := hz
  clear hz
  go_enter Try.func6, Try.ntmps6
  go_wp2_with (first | (go_at_call 16; refine (bytes16_ok _ _ _ _ _ _ _ _ w0 w1 w2 w3 HZ).mono ?_; rintro e w' ⟨rfl, rfl⟩) | (go_at_call 17; refine (allDigits_any _ _ ?_).mono ?_; all_goals first | (unfold maxLen; omega) | (rintro e w' ⟨rfl, rfl⟩)) | (go_at_call 14; refine (flo_tlm a0 a1 a3 _ _l0 _l1 _l3 d0 d1 d3).mono ?_; rintro e w1 ⟨rfl, rfl⟩))
  go_ret
  exact ⟨rfl, rfl⟩

set_option maxHeartbeats 400000 in
theorem main_tlm_Z (a0 a1 a3 : ByteArray) (w : World) (w0 : a0.size ≤ maxLen) (w1 : a1.size ≤ maxLen) (w2 : (⟨#[45]⟩ : ByteArray).size ≤ maxLen) (w3 : a3.size ≤ maxLen) (hz : a0.size + a1.size + (⟨#[45]⟩ : ByteArray).size + a3.size ≤ 1048576) (_l0 : a0.size ≤ 262144) (_l1 : a1.size ≤ 262144) (_l3 : a3.size ≤ 262144) (d0 : allB digB a0 = true) (d1 : allB digB a1 = true) (d3 : allB digB a3 = true) (_p : ¬ 0 < a0.size) (_q : ¬ 0 < a1.size) (_hv : wantB a0.size a1.size a3.size true true = false) :
    Calls Try.prog 6 #[.string a0, .string a1, .string (⟨#[45]⟩ : ByteArray), .string a3, .bool true, .bool true, .bool false] w fun e w' => e = .returned (.bool true) ∧ w' = w := by
  unfold maxLen at w0 w1 w2 w3
  have HZ : Hid (_) := hz
  clear hz
  go_enter Try.func6, Try.ntmps6
  go_wp2_with (first | (go_at_call 16; refine (bytes16_ok _ _ _ _ _ _ _ _ w0 w1 w2 w3 HZ).mono ?_; rintro e w' ⟨rfl, rfl⟩) | (go_at_call 17; refine (allDigits_any _ _ ?_).mono ?_; all_goals first | (unfold maxLen; omega) | (rintro e w' ⟨rfl, rfl⟩)) | (go_at_call 14; refine (flo_tlm a0 a1 a3 _ _l0 _l1 _l3 d0 d1 d3).mono ?_; rintro e w1 ⟨rfl, rfl⟩))
  go_ret
  exact ⟨rfl, rfl⟩

theorem main_tlm (a0 a1 a3 : ByteArray) (w : World) (w0 : a0.size ≤ maxLen) (w1 : a1.size ≤ maxLen) (w2 : (⟨#[45]⟩ : ByteArray).size ≤ maxLen) (w3 : a3.size ≤ maxLen) (hz : a0.size + a1.size + (⟨#[45]⟩ : ByteArray).size + a3.size ≤ 1048576) (_l0 : a0.size ≤ 262144) (_l1 : a1.size ≤ 262144) (_l3 : a3.size ≤ 262144) (d0 : allB digB a0 = true) (d1 : allB digB a1 = true) (d3 : allB digB a3 = true) :
    Calls Try.prog 6 #[.string a0, .string a1, .string (⟨#[45]⟩ : ByteArray), .string a3, .bool true, .bool true, .bool false] w fun e w' => e = .returned (.bool true) ∧ w' = w := by
  by_cases p : 0 < a0.size
  · by_cases r : 0 < a3.size
    · exact main_tlm_WD a0 a1 a3 w w0 w1 w2 w3 hz _l0 _l1 _l3 d0 d1 d3 p r (wv (by simp [*]))
    · exact main_tlm_WN a0 a1 a3 w w0 w1 w2 w3 hz _l0 _l1 _l3 d0 d1 d3 p r (wv (by simp [*]))
  · by_cases q : 0 < a1.size
    · by_cases r : 0 < a3.size
      · exact main_tlm_FD a0 a1 a3 w w0 w1 w2 w3 hz _l0 _l1 _l3 d0 d1 d3 p q r (wv (by simp [*]))
      · exact main_tlm_FN a0 a1 a3 w w0 w1 w2 w3 hz _l0 _l1 _l3 d0 d1 d3 p q r (wv (by simp [*]))
    · exact main_tlm_Z a0 a1 a3 w w0 w1 w2 w3 hz _l0 _l1 _l3 d0 d1 d3 p q (wv (by simp [*]))

theorem flo_fnm (a0 a1 a3 : ByteArray) (w : World) (_l0 : a0.size ≤ 262144) (_l1 : a1.size ≤ 262144) (_l3 : a3.size ≤ 262144) (d0 : allB digB a0 = true) (_d1 : allB digB a1 = true) (_d3 : allB digB a3 = true) :
    Calls Try.prog 14 #[.string (a0)] w fun e w' => e = .returned (.bool (wantB a0.size a1.size a3.size false false)) ∧ w' = w := by
  refine (zzfloat_any _ _ (by unfold maxLen; omega)).mono ?_
  rintro e w1 ⟨b, rfl, hb, rfl⟩
  exact ⟨ret_bool (parts_ff (F := a1.size) (D := a3.size) d0 hb), rfl⟩

set_option maxHeartbeats 400000 in
theorem main_fnm_W (a0 a1 a3 : ByteArray) (b2 : Bool) (w : World) (w0 : a0.size ≤ maxLen) (w1 : a1.size ≤ maxLen) (w2 : (⟨#[45]⟩ : ByteArray).size ≤ maxLen) (w3 : a3.size ≤ maxLen) (hz : a0.size + a1.size + (⟨#[45]⟩ : ByteArray).size + a3.size ≤ 1048576) (_l0 : a0.size ≤ 262144) (_l1 : a1.size ≤ 262144) (_l3 : a3.size ≤ 262144) (d0 : allB digB a0 = true) (_d1 : allB digB a1 = true) (_d3 : allB digB a3 = true) (_p : 0 < a0.size) (_hv : wantB a0.size a1.size a3.size false false = true) :
    Calls Try.prog 6 #[.string a0, .string a1, .string (⟨#[45]⟩ : ByteArray), .string a3, .bool false, .bool false, .bool b2] w fun e w' => e = .returned (.bool true) ∧ w' = w := by
  unfold maxLen at w0 w1 w2 w3
  have HZ : Hid (_) := hz
  clear hz
  go_enter Try.func6, Try.ntmps6
  go_wp2_with (first | (go_at_call 16; refine (bytes16_ok _ _ _ _ _ _ _ _ w0 w1 w2 w3 HZ).mono ?_; rintro e w' ⟨rfl, rfl⟩) | (go_at_call 17; refine (allDigits_any _ _ ?_).mono ?_; all_goals first | (unfold maxLen; omega) | (rintro e w' ⟨rfl, rfl⟩)) | (go_at_call 14; refine (flo_fnm a0 a1 a3 _ _l0 _l1 _l3 d0 _d1 _d3).mono ?_; rintro e w1 ⟨rfl, rfl⟩))
  go_ret
  exact ⟨rfl, rfl⟩

set_option maxHeartbeats 400000 in
theorem main_fnm_Z (a0 a1 a3 : ByteArray) (b2 : Bool) (w : World) (w0 : a0.size ≤ maxLen) (w1 : a1.size ≤ maxLen) (w2 : (⟨#[45]⟩ : ByteArray).size ≤ maxLen) (w3 : a3.size ≤ maxLen) (hz : a0.size + a1.size + (⟨#[45]⟩ : ByteArray).size + a3.size ≤ 1048576) (_l0 : a0.size ≤ 262144) (_l1 : a1.size ≤ 262144) (_l3 : a3.size ≤ 262144) (d0 : allB digB a0 = true) (_d1 : allB digB a1 = true) (_d3 : allB digB a3 = true) (_p : ¬ 0 < a0.size) (_hv : wantB a0.size a1.size a3.size false false = false) :
    Calls Try.prog 6 #[.string a0, .string a1, .string (⟨#[45]⟩ : ByteArray), .string a3, .bool false, .bool false, .bool b2] w fun e w' => e = .returned (.bool true) ∧ w' = w := by
  unfold maxLen at w0 w1 w2 w3
  have HZ : Hid (_) := hz
  clear hz
  go_enter Try.func6, Try.ntmps6
  go_wp2_with (first | (go_at_call 16; refine (bytes16_ok _ _ _ _ _ _ _ _ w0 w1 w2 w3 HZ).mono ?_; rintro e w' ⟨rfl, rfl⟩) | (go_at_call 17; refine (allDigits_any _ _ ?_).mono ?_; all_goals first | (unfold maxLen; omega) | (rintro e w' ⟨rfl, rfl⟩)) | (go_at_call 14; refine (flo_fnm a0 a1 a3 _ _l0 _l1 _l3 d0 _d1 _d3).mono ?_; rintro e w1 ⟨rfl, rfl⟩))
  go_ret
  exact ⟨rfl, rfl⟩

theorem main_fnm (a0 a1 a3 : ByteArray) (b2 : Bool) (w : World) (w0 : a0.size ≤ maxLen) (w1 : a1.size ≤ maxLen) (w2 : (⟨#[45]⟩ : ByteArray).size ≤ maxLen) (w3 : a3.size ≤ maxLen) (hz : a0.size + a1.size + (⟨#[45]⟩ : ByteArray).size + a3.size ≤ 1048576) (_l0 : a0.size ≤ 262144) (_l1 : a1.size ≤ 262144) (_l3 : a3.size ≤ 262144) (d0 : allB digB a0 = true) (_d1 : allB digB a1 = true) (_d3 : allB digB a3 = true) :
    Calls Try.prog 6 #[.string a0, .string a1, .string (⟨#[45]⟩ : ByteArray), .string a3, .bool false, .bool false, .bool b2] w fun e w' => e = .returned (.bool true) ∧ w' = w := by
  by_cases p : 0 < a0.size
  · exact main_fnm_W a0 a1 a3 b2 w w0 w1 w2 w3 hz _l0 _l1 _l3 d0 _d1 _d3 p (wv (by simp [*]))
  · exact main_fnm_Z a0 a1 a3 b2 w w0 w1 w2 w3 hz _l0 _l1 _l3 d0 _d1 _d3 p (wv (by simp [*]))

theorem flo_fum (a0 a1 a3 : ByteArray) (w : World) (_l0 : a0.size ≤ 262144) (_l1 : a1.size ≤ 262144) (_l3 : a3.size ≤ 262144) (d0 : allB digB a0 = true) (_d1 : allB digB a1 = true) (d3 : allB digB a3 = true) :
    Calls Try.prog 14 #[.string (a0 ++ ⟨#[69]⟩ ++ (⟨#[45]⟩ ++ a3))] w fun e w' => e = .returned (.bool (wantB a0.size a1.size a3.size false true)) ∧ w' = w := by
  refine (zzfloat_any _ _ (by simp only [ByteArray.size_append, size_one, maxLen]; omega)).mono ?_
  rintro e w1 ⟨b, rfl, hb, rfl⟩
  exact ⟨ret_bool (parts_ft (F := a1.size) d0 (Or.inr rfl) (Or.inr (Or.inr rfl)) d3 hb), rfl⟩

set_option maxHeartbeats 400000 in
theorem main_fum_WD (a0 a1 a3 : ByteArray) (w : World) (w0 : a0.size ≤ maxLen) (w1 : a1.size ≤ maxLen) (w2 : (⟨#[45]⟩ : ByteArray).size ≤ maxLen) (w3 : a3.size ≤ maxLen) (hz : a0.size + a1.size + (⟨#[45]⟩ : ByteArray).size + a3.size ≤ 1048576) (_l0 : a0.size ≤ 262144) (_l1 : a1.size ≤ 262144) (_l3 : a3.size ≤ 262144) (d0 : allB digB a0 = true) (_d1 : allB digB a1 = true) (d3 : allB digB a3 = true) (_p : 0 < a0.size) (_r : 0 < a3.size) (_hv : wantB a0.size a1.size a3.size false true = true) :
    Calls Try.prog 6 #[.string a0, .string a1, .string (⟨#[45]⟩ : ByteArray), .string a3, .bool false, .bool true, .bool true] w fun e w' => e = .returned (.bool true) ∧ w' = w := by
  unfold maxLen at w0 w1 w2 w3
  have HZ : Hid (_) := hz
  clear hz
  go_enter Try.func6, Try.ntmps6
  go_wp2_with (first | (go_at_call 16; refine (bytes16_ok _ _ _ _ _ _ _ _ w0 w1 w2 w3 HZ).mono ?_; rintro e w' ⟨rfl, rfl⟩) | (go_at_call 17; refine (allDigits_any _ _ ?_).mono ?_; all_goals first | (unfold maxLen; omega) | (rintro e w' ⟨rfl, rfl⟩)) | (go_at_call 14; refine (flo_fum a0 a1 a3 _ _l0 _l1 _l3 d0 _d1 d3).mono ?_; rintro e w1 ⟨rfl, rfl⟩))
  go_ret
  exact ⟨rfl, rfl⟩

set_option maxHeartbeats 400000 in
theorem main_fum_WN (a0 a1 a3 : ByteArray) (w : World) (w0 : a0.size ≤ maxLen) (w1 : a1.size ≤ maxLen) (w2 : (⟨#[45]⟩ : ByteArray).size ≤ maxLen) (w3 : a3.size ≤ maxLen) (hz : a0.size + a1.size + (⟨#[45]⟩ : ByteArray).size + a3.size ≤ 1048576) (_l0 : a0.size ≤ 262144) (_l1 : a1.size ≤ 262144) (_l3 : a3.size ≤ 262144) (d0 : allB digB a0 = true) (_d1 : allB digB a1 = true) (d3 : allB digB a3 = true) (_p : 0 < a0.size) (_r : ¬ 0 < a3.size) (_hv : wantB a0.size a1.size a3.size false true = false) :
    Calls Try.prog 6 #[.string a0, .string a1, .string (⟨#[45]⟩ : ByteArray), .string a3, .bool false, .bool true, .bool true] w fun e w' => e = .returned (.bool true) ∧ w' = w := by
  unfold maxLen at w0 w1 w2 w3
  have HZ : Hid (_) := hz
  clear hz
  go_enter Try.func6, Try.ntmps6
  go_wp2_with (first | (go_at_call 16; refine (bytes16_ok _ _ _ _ _ _ _ _ w0 w1 w2 w3 HZ).mono ?_; rintro e w' ⟨rfl, rfl⟩) | (go_at_call 17; refine (allDigits_any _ _ ?_).mono ?_; all_goals first | (unfold maxLen; omega) | (rintro e w' ⟨rfl, rfl⟩)) | (go_at_call 14; refine (flo_fum a0 a1 a3 _ _l0 _l1 _l3 d0 _d1 d3).mono ?_; rintro e w1 ⟨rfl, rfl⟩))
  go_ret
  exact ⟨rfl, rfl⟩

set_option maxHeartbeats 400000 in
theorem main_fum_Z (a0 a1 a3 : ByteArray) (w : World) (w0 : a0.size ≤ maxLen) (w1 : a1.size ≤ maxLen) (w2 : (⟨#[45]⟩ : ByteArray).size ≤ maxLen) (w3 : a3.size ≤ maxLen) (hz : a0.size + a1.size + (⟨#[45]⟩ : ByteArray).size + a3.size ≤ 1048576) (_l0 : a0.size ≤ 262144) (_l1 : a1.size ≤ 262144) (_l3 : a3.size ≤ 262144) (d0 : allB digB a0 = true) (_d1 : allB digB a1 = true) (d3 : allB digB a3 = true) (_p : ¬ 0 < a0.size) (_hv : wantB a0.size a1.size a3.size false true = false) :
    Calls Try.prog 6 #[.string a0, .string a1, .string (⟨#[45]⟩ : ByteArray), .string a3, .bool false, .bool true, .bool true] w fun e w' => e = .returned (.bool true) ∧ w' = w := by
  unfold maxLen at w0 w1 w2 w3
  have HZ : Hid (_) := hz
  clear hz
  go_enter Try.func6, Try.ntmps6
  go_wp2_with (first | (go_at_call 16; refine (bytes16_ok _ _ _ _ _ _ _ _ w0 w1 w2 w3 HZ).mono ?_; rintro e w' ⟨rfl, rfl⟩) | (go_at_call 17; refine (allDigits_any _ _ ?_).mono ?_; all_goals first | (unfold maxLen; omega) | (rintro e w' ⟨rfl, rfl⟩)) | (go_at_call 14; refine (flo_fum a0 a1 a3 _ _l0 _l1 _l3 d0 _d1 d3).mono ?_; rintro e w1 ⟨rfl, rfl⟩))
  go_ret
  exact ⟨rfl, rfl⟩

theorem main_fum (a0 a1 a3 : ByteArray) (w : World) (w0 : a0.size ≤ maxLen) (w1 : a1.size ≤ maxLen) (w2 : (⟨#[45]⟩ : ByteArray).size ≤ maxLen) (w3 : a3.size ≤ maxLen) (hz : a0.size + a1.size + (⟨#[45]⟩ : ByteArray).size + a3.size ≤ 1048576) (_l0 : a0.size ≤ 262144) (_l1 : a1.size ≤ 262144) (_l3 : a3.size ≤ 262144) (d0 : allB digB a0 = true) (_d1 : allB digB a1 = true) (d3 : allB digB a3 = true) :
    Calls Try.prog 6 #[.string a0, .string a1, .string (⟨#[45]⟩ : ByteArray), .string a3, .bool false, .bool true, .bool true] w fun e w' => e = .returned (.bool true) ∧ w' = w := by
  by_cases p : 0 < a0.size
  · by_cases r : 0 < a3.size
    · exact main_fum_WD a0 a1 a3 w w0 w1 w2 w3 hz _l0 _l1 _l3 d0 _d1 d3 p r (wv (by simp [*]))
    · exact main_fum_WN a0 a1 a3 w w0 w1 w2 w3 hz _l0 _l1 _l3 d0 _d1 d3 p r (wv (by simp [*]))
  · exact main_fum_Z a0 a1 a3 w w0 w1 w2 w3 hz _l0 _l1 _l3 d0 _d1 d3 p (wv (by simp [*]))

theorem flo_flm (a0 a1 a3 : ByteArray) (w : World) (_l0 : a0.size ≤ 262144) (_l1 : a1.size ≤ 262144) (_l3 : a3.size ≤ 262144) (d0 : allB digB a0 = true) (_d1 : allB digB a1 = true) (d3 : allB digB a3 = true) :
    Calls Try.prog 14 #[.string (a0 ++ ⟨#[101]⟩ ++ (⟨#[45]⟩ ++ a3))] w fun e w' => e = .returned (.bool (wantB a0.size a1.size a3.size false true)) ∧ w' = w := by
  refine (zzfloat_any _ _ (by simp only [ByteArray.size_append, size_one, maxLen]; omega)).mono ?_
  rintro e w1 ⟨b, rfl, hb, rfl⟩
  exact ⟨ret_bool (parts_ft (F := a1.size) d0 (Or.inl rfl) (Or.inr (Or.inr rfl)) d3 hb), rfl⟩

set_option maxHeartbeats 400000 in
theorem main_flm_WD (a0 a1 a3 : ByteArray) (w : World) (w0 : a0.size ≤ maxLen) (w1 : a1.size ≤ maxLen) (w2 : (⟨#[45]⟩ : ByteArray).size ≤ maxLen) (w3 : a3.size ≤ maxLen) (hz : a0.size + a1.size + (⟨#[45]⟩ : ByteArray).size + a3.size ≤ 1048576) (_l0 : a0.size ≤ 262144) (_l1 : a1.size ≤ 262144) (_l3 : a3.size ≤ 262144) (d0 : allB digB a0 = true) (_d1 : allB digB a1 = true) (d3 : allB digB a3 = true) (_p : 0 < a0.size) (_r : 0 < a3.size) (_hv : wantB a0.size a1.size a3.size false true = true) :
    Calls Try.prog 6 #[.string a0, .string a1, .string (⟨#[45]⟩ : ByteArray), .string a3, .bool false, .bool true, .bool false] w fun e w' => e = .returned (.bool true) ∧ w' = w := by
  unfold maxLen at w0 w1 w2 w3
  have HZ : Hid (_) := hz
  clear hz
  go_enter Try.func6, Try.ntmps6
  go_wp2_with (first | (go_at_call 16; refine (bytes16_ok _ _ _ _ _ _ _ _ w0 w1 w2 w3 HZ).mono ?_; rintro e w' ⟨rfl, rfl⟩) | (go_at_call 17; refine (allDigits_any _ _ ?_).mono ?_; all_goals first | (unfold maxLen; omega) | (rintro e w' ⟨rfl, rfl⟩)) | (go_at_call 14; refine (flo_flm a0 a1 a3 _ _l0 _l1 _l3 d0 _d1 d3).mono ?_; rintro e w1 ⟨rfl, rfl⟩))
  go_ret
  exact ⟨rfl, rfl⟩

set_option maxHeartbeats 400000 in
theorem main_flm_WN (a0 a1 a3 : ByteArray) (w : World) (w0 : a0.size ≤ maxLen) (w1 : a1.size ≤ maxLen) (w2 : (⟨#[45]⟩ : ByteArray).size ≤ maxLen) (w3 : a3.size ≤ maxLen) (hz : a0.size + a1.size + (⟨#[45]⟩ : ByteArray).size + a3.size ≤ 1048576) (_l0 : a0.size ≤ 262144) (_l1 : a1.size ≤ 262144) (_l3 : a3.size ≤ 262144) (d0 : allB digB a0 = true) (_d1 : allB digB a1 = true) (d3 : allB digB a3 = true) (_p : 0 < a0.size) (_r : ¬ 0 < a3.size) (_hv : wantB a0.size a1.size a3.size false true = false) :
    Calls Try.prog 6 #[.string a0, .string a1, .string (⟨#[45]⟩ : ByteArray), .string a3, .bool false, .bool true, .bool false] w fun e w' => e = .returned (.bool true) ∧ w' = w := by
  unfold maxLen at w0 w1 w2 w3
  have HZ : Hid (_) := hz
  clear hz
  go_enter Try.func6, Try.ntmps6
  go_wp2_with (first | (go_at_call 16; refine (bytes16_ok _ _ _ _ _ _ _ _ w0 w1 w2 w3 HZ).mono ?_; rintro e w' ⟨rfl, rfl⟩) | (go_at_call 17; refine (allDigits_any _ _ ?_).mono ?_; all_goals first | (unfold maxLen; omega) | (rintro e w' ⟨rfl, rfl⟩)) | (go_at_call 14; refine (flo_flm a0 a1 a3 _ _l0 _l1 _l3 d0 _d1 d3).mono ?_; rintro e w1 ⟨rfl, rfl⟩))
  go_ret
  exact ⟨rfl, rfl⟩

set_option maxHeartbeats 400000 in
theorem main_flm_Z (a0 a1 a3 : ByteArray) (w : World) (w0 : a0.size ≤ maxLen) (w1 : a1.size ≤ maxLen) (w2 : (⟨#[45]⟩ : ByteArray).size ≤ maxLen) (w3 : a3.size ≤ maxLen) (hz : a0.size + a1.size + (⟨#[45]⟩ : ByteArray).size + a3.size ≤ 1048576) (_l0 : a0.size ≤ 262144) (_l1 : a1.size ≤ 262144) (_l3 : a3.size ≤ 262144) (d0 : allB digB a0 = true) (_d1 : allB digB a1 = true) (d3 : allB digB a3 = true) (_p : ¬ 0 < a0.size) (_hv : wantB a0.size a1.size a3.size false true = false) :
    Calls Try.prog 6 #[.string a0, .string a1, .string (⟨#[45]⟩ : ByteArray), .string a3, .bool false, .bool true, .bool false] w fun e w' => e = .returned (.bool true) ∧ w' = w := by
  unfold maxLen at w0 w1 w2 w3
  have HZ : Hid (_) := hz
  clear hz
  go_enter Try.func6, Try.ntmps6
  go_wp2_with (first | (go_at_call 16; refine (bytes16_ok _ _ _ _ _ _ _ _ w0 w1 w2 w3 HZ).mono ?_; rintro e w' ⟨rfl, rfl⟩) | (go_at_call 17; refine (allDigits_any _ _ ?_).mono ?_; all_goals first | (unfold maxLen; omega) | (rintro e w' ⟨rfl, rfl⟩)) | (go_at_call 14; refine (flo_flm a0 a1 a3 _ _l0 _l1 _l3 d0 _d1 d3).mono ?_; rintro e w1 ⟨rfl, rfl⟩))
  go_ret
  exact ⟨rfl, rfl⟩

theorem main_flm (a0 a1 a3 : ByteArray) (w : World) (w0 : a0.size ≤ maxLen) (w1 : a1.size ≤ maxLen) (w2 : (⟨#[45]⟩ : ByteArray).size ≤ maxLen) (w3 : a3.size ≤ maxLen) (hz : a0.size + a1.size + (⟨#[45]⟩ : ByteArray).size + a3.size ≤ 1048576) (_l0 : a0.size ≤ 262144) (_l1 : a1.size ≤ 262144) (_l3 : a3.size ≤ 262144) (d0 : allB digB a0 = true) (_d1 : allB digB a1 = true) (d3 : allB digB a3 = true) :
    Calls Try.prog 6 #[.string a0, .string a1, .string (⟨#[45]⟩ : ByteArray), .string a3, .bool false, .bool true, .bool false] w fun e w' => e = .returned (.bool true) ∧ w' = w := by
  by_cases p : 0 < a0.size
  · by_cases r : 0 < a3.size
    · exact main_flm_WD a0 a1 a3 w w0 w1 w2 w3 hz _l0 _l1 _l3 d0 _d1 d3 p r (wv (by simp [*]))
    · exact main_flm_WN a0 a1 a3 w w0 w1 w2 w3 hz _l0 _l1 _l3 d0 _d1 d3 p r (wv (by simp [*]))
  · exact main_flm_Z a0 a1 a3 w w0 w1 w2 w3 hz _l0 _l1 _l3 d0 _d1 d3 p (wv (by simp [*]))

end Go.Proofs.Qxb6605398a.fnIsFloatTextByParts
