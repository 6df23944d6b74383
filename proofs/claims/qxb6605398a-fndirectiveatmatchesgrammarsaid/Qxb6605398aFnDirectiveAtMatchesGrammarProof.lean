/-
  The proof of 'Rows.FnDirectiveAtMatchesGrammarSaid' (the frame is the guide's template; the walk's cases are laid by a program of this seat).
-/
import Derived.Test.Qxb6605398aGram
import Derived.ProofKit
import Derived.OpenShut
import Derived.ShutString
namespace Go.Proofs.Qxb6605398a.fnDirectiveAtMatchesGrammar
open Go.ChangeShapes Go.WideShapes Go.ChangeAt Go.RowKit
open Go.ChangeMaps (open_string shut_string)
set_option linter.unusedVariables false      -- a walk need not use every 'w<i>' (that an integer argument fits its kind)

theorem own : ownKnob Try.prog.godebug = none := by kernel_rfl

theorem emp_app (x : ByteArray) : (⟨#[]⟩ : ByteArray) ++ x = x := ByteArray.empty_append

theorem ex_le {s : ByteArray} {a b : Nat} (h : s.size ≤ maxLen) : (s.extract a b).size ≤ maxLen := by
  rw [ByteArray.size_extract]; omega

set_option maxHeartbeats 400000 in
theorem g_A_end (s : ByteArray) (i : Nat) (w : World) (hs : s.size ≤ maxLen) (_hz : s.size ≤ 1048576) (_hz' : decide (s.size ≤ 1048576) = true) (_h1 : s.size ≤ i + 1) (_h1x : i < s.size) (j : Nat) (_hj0 : i + 1 ≤ j) (_hl : allB letB (s.extract (i + 1) j) = true) (_hj : j = s.size)
    (hd : ∀ w, Calls Try.prog 8 #[.string s, .int .i64 i] w fun e w' => e = .returned (.tuple #[.string (s.extract (i + 1) j), .int .i64 j]) ∧ w' = w) :
    Calls Try.prog 3 #[.string s, .int .i64 i] w fun e w' => e = .returned (.bool true) ∧ w' = w := by
  have _hj1 : s.size ≤ j := by omega
  have _hj2 : j ≤ s.size := by omega
  clear _hj
  have HD : Hid (_) := hd
  clear hd
  unfold maxLen at hs
  go_enter Try.func3, Try.ntmps3
  go_wp2_with (first | (go_at_call 7; refine (bytes7_any _ _ _ hs).mono ?_; rintro e w' ⟨rfl, rfl⟩) | (go_at_call 8; refine (HD.out _).mono ?_; rintro e w' ⟨rfl, rfl⟩) | (go_at_call 10; refine (allLetters_any _ _ (ex_le hs)).mono ?_; rintro e w' ⟨rfl, rfl⟩) | (go_at_call 11; refine (zzLetter_any _ _).mono ?_; rintro e w' ⟨rfl, rfl⟩))
  all_goals
    go_ret
    exact ⟨ret_bool (by first | (simp; done) | (rw [emp_app]; simp)), rfl⟩

set_option maxHeartbeats 400000 in
theorem g_B1_end (s : ByteArray) (i : Nat) (w : World) (hs : s.size ≤ maxLen) (_hz : s.size ≤ 1048576) (_hz' : decide (s.size ≤ 1048576) = true) (_h1 : i + 1 < s.size) (_h2 : s.size ≤ i + 2) (_hb : ((s[i + 1].toNat : Int) == 33) = true) (j : Nat) (_hj0 : i + 1 + 1 ≤ j) (_hl : allB letB (s.extract (i + 1 + 1) j) = true) (_hj : j = s.size)
    (hd : ∀ w, Calls Try.prog 8 #[.string s, .int .i64 i] w fun e w' => e = .returned (.tuple #[.string (⟨#[33]⟩ ++ s.extract (i + 1 + 1) j), .int .i64 j]) ∧ w' = w) :
    Calls Try.prog 3 #[.string s, .int .i64 i] w fun e w' => e = .returned (.bool true) ∧ w' = w := by
  have _hj1 : s.size ≤ j := by omega
  have _hj2 : j ≤ s.size := by omega
  clear _hj
  have HD : Hid (_) := hd
  clear hd
  unfold maxLen at hs
  go_enter Try.func3, Try.ntmps3
  go_wp2_with (first | (go_at_call 7; refine (bytes7_any _ _ _ hs).mono ?_; rintro e w' ⟨rfl, rfl⟩) | (go_at_call 8; refine (HD.out _).mono ?_; rintro e w' ⟨rfl, rfl⟩) | (go_at_call 10; refine (allLetters_any _ _ (ex_le hs)).mono ?_; rintro e w' ⟨rfl, rfl⟩) | (go_at_call 11; refine (zzLetter_any _ _).mono ?_; rintro e w' ⟨rfl, rfl⟩))
  all_goals
    go_ret
    exact ⟨ret_bool (by first | (simp; done) | (rw [emp_app]; simp)), rfl⟩

set_option maxHeartbeats 400000 in
theorem g_B3_end (s : ByteArray) (i : Nat) (w : World) (hs : s.size ≤ maxLen) (_hz : s.size ≤ 1048576) (_hz' : decide (s.size ≤ 1048576) = true) (_h1 : i + 1 < s.size) (_h2 : i + 2 < s.size) (_hb : ((s[i + 1].toNat : Int) == 33) = true) (_hc : ((s[i + 2].toNat : Int) == 123) = false) (j : Nat) (_hj0 : i + 1 + 1 ≤ j) (_hl : allB letB (s.extract (i + 1 + 1) j) = true) (_hj : j = s.size)
    (hd : ∀ w, Calls Try.prog 8 #[.string s, .int .i64 i] w fun e w' => e = .returned (.tuple #[.string (⟨#[33]⟩ ++ s.extract (i + 1 + 1) j), .int .i64 j]) ∧ w' = w) :
    Calls Try.prog 3 #[.string s, .int .i64 i] w fun e w' => e = .returned (.bool true) ∧ w' = w := by
  have _hj1 : s.size ≤ j := by omega
  have _hj2 : j ≤ s.size := by omega
  clear _hj
  have HD : Hid (_) := hd
  clear hd
  unfold maxLen at hs
  go_enter Try.func3, Try.ntmps3
  go_wp2_with (first | (go_at_call 7; refine (bytes7_any _ _ _ hs).mono ?_; rintro e w' ⟨rfl, rfl⟩) | (go_at_call 8; refine (HD.out _).mono ?_; rintro e w' ⟨rfl, rfl⟩) | (go_at_call 10; refine (allLetters_any _ _ (ex_le hs)).mono ?_; rintro e w' ⟨rfl, rfl⟩) | (go_at_call 11; refine (zzLetter_any _ _).mono ?_; rintro e w' ⟨rfl, rfl⟩))
  all_goals
    go_ret
    exact ⟨ret_bool (by first | (simp; done) | (rw [emp_app]; simp)), rfl⟩

set_option maxHeartbeats 400000 in
theorem g_B3_in (s : ByteArray) (i : Nat) (w : World) (hs : s.size ≤ maxLen) (_hz : s.size ≤ 1048576) (_hz' : decide (s.size ≤ 1048576) = true) (_h1 : i + 1 < s.size) (_h2 : i + 2 < s.size) (_hb : ((s[i + 1].toNat : Int) == 33) = true) (_hc : ((s[i + 2].toNat : Int) == 123) = false) (j : Nat) (_hj0 : i + 1 + 1 ≤ j) (_hl : allB letB (s.extract (i + 1 + 1) j) = true) (_hj : j < s.size) (_q : letB s[j].toNat = false)
    (hd : ∀ w, Calls Try.prog 8 #[.string s, .int .i64 i] w fun e w' => e = .returned (.tuple #[.string (⟨#[33]⟩ ++ s.extract (i + 1 + 1) j), .int .i64 j]) ∧ w' = w) :
    Calls Try.prog 3 #[.string s, .int .i64 i] w fun e w' => e = .returned (.bool true) ∧ w' = w := by
  have HD : Hid (_) := hd
  clear hd
  unfold maxLen at hs
  go_enter Try.func3, Try.ntmps3
  go_wp2_with (first | (go_at_call 7; refine (bytes7_any _ _ _ hs).mono ?_; rintro e w' ⟨rfl, rfl⟩) | (go_at_call 8; refine (HD.out _).mono ?_; rintro e w' ⟨rfl, rfl⟩) | (go_at_call 10; refine (allLetters_any _ _ (ex_le hs)).mono ?_; rintro e w' ⟨rfl, rfl⟩) | (go_at_call 11; refine (zzLetter_any _ _).mono ?_; rintro e w' ⟨rfl, rfl⟩))
  all_goals
    go_ret
    exact ⟨ret_bool (by first | (simp; done) | (rw [emp_app]; simp)), rfl⟩

set_option maxHeartbeats 400000 in
theorem g_C2_end (s : ByteArray) (i : Nat) (w : World) (hs : s.size ≤ maxLen) (_hz : s.size ≤ 1048576) (_hz' : decide (s.size ≤ 1048576) = true) (_h1 : i + 1 < s.size) (_hb : ((s[i + 1].toNat : Int) == 33) = false) (_hc : ((s[i + 1].toNat : Int) == 123) = false) (j : Nat) (_hj0 : i + 1 ≤ j) (_hl : allB letB (s.extract (i + 1) j) = true) (_hj : j = s.size)
    (hd : ∀ w, Calls Try.prog 8 #[.string s, .int .i64 i] w fun e w' => e = .returned (.tuple #[.string (s.extract (i + 1) j), .int .i64 j]) ∧ w' = w) :
    Calls Try.prog 3 #[.string s, .int .i64 i] w fun e w' => e = .returned (.bool true) ∧ w' = w := by
  have _hj1 : s.size ≤ j := by omega
  have _hj2 : j ≤ s.size := by omega
  clear _hj
  have HD : Hid (_) := hd
  clear hd
  unfold maxLen at hs
  go_enter Try.func3, Try.ntmps3
  go_wp2_with (first | (go_at_call 7; refine (bytes7_any _ _ _ hs).mono ?_; rintro e w' ⟨rfl, rfl⟩) | (go_at_call 8; refine (HD.out _).mono ?_; rintro e w' ⟨rfl, rfl⟩) | (go_at_call 10; refine (allLetters_any _ _ (ex_le hs)).mono ?_; rintro e w' ⟨rfl, rfl⟩) | (go_at_call 11; refine (zzLetter_any _ _).mono ?_; rintro e w' ⟨rfl, rfl⟩))
  all_goals
    go_ret
    exact ⟨ret_bool (by first | (simp; done) | (rw [emp_app]; simp)), rfl⟩

set_option maxHeartbeats 400000 in
theorem g_C2_in (s : ByteArray) (i : Nat) (w : World) (hs : s.size ≤ maxLen) (_hz : s.size ≤ 1048576) (_hz' : decide (s.size ≤ 1048576) = true) (_h1 : i + 1 < s.size) (_hb : ((s[i + 1].toNat : Int) == 33) = false) (_hc : ((s[i + 1].toNat : Int) == 123) = false) (j : Nat) (_hj0 : i + 1 ≤ j) (_hl : allB letB (s.extract (i + 1) j) = true) (_hj : j < s.size) (_q : letB s[j].toNat = false)
    (hd : ∀ w, Calls Try.prog 8 #[.string s, .int .i64 i] w fun e w' => e = .returned (.tuple #[.string (s.extract (i + 1) j), .int .i64 j]) ∧ w' = w) :
    Calls Try.prog 3 #[.string s, .int .i64 i] w fun e w' => e = .returned (.bool true) ∧ w' = w := by
  have HD : Hid (_) := hd
  clear hd
  unfold maxLen at hs
  go_enter Try.func3, Try.ntmps3
  go_wp2_with (first | (go_at_call 7; refine (bytes7_any _ _ _ hs).mono ?_; rintro e w' ⟨rfl, rfl⟩) | (go_at_call 8; refine (HD.out _).mono ?_; rintro e w' ⟨rfl, rfl⟩) | (go_at_call 10; refine (allLetters_any _ _ (ex_le hs)).mono ?_; rintro e w' ⟨rfl, rfl⟩) | (go_at_call 11; refine (zzLetter_any _ _).mono ?_; rintro e w' ⟨rfl, rfl⟩))
  all_goals
    go_ret
    exact ⟨ret_bool (by first | (simp; done) | (rw [emp_app]; simp)), rfl⟩

set_option maxHeartbeats 400000 in
theorem g_B2_none (s : ByteArray) (i : Nat) (w : World) (hs : s.size ≤ maxLen) (_hz : s.size ≤ 1048576) (_hz' : decide (s.size ≤ 1048576) = true) (_h1 : i + 1 < s.size) (_h2 : i + 2 < s.size) (_hb : ((s[i + 1].toNat : Int) == 33) = true) (_hc : ((s[i + 2].toNat : Int) == 123) = true) 
    (hd : ∀ w, Calls Try.prog 8 #[.string s, .int .i64 i] w fun e w' => e = .returned (.tuple #[.string ⟨#[]⟩, .int .i64 0]) ∧ w' = w)
    (hx : ∀ w, Calls Try.prog 9 #[.string s, .int .i64 (i + 1 + 1 + 1), .int .u8 125] w fun e w' => e = .returned (.int .i64 (-1)) ∧ w' = w) :
    Calls Try.prog 3 #[.string s, .int .i64 i] w fun e w' => e = .returned (.bool true) ∧ w' = w := by
  have HD : Hid (_) := hd
  have HX : Hid (_) := hx
  clear hx
  clear hd
  unfold maxLen at hs
  go_enter Try.func3, Try.ntmps3
  go_wp2_with (first | (go_at_call 7; refine (bytes7_any _ _ _ hs).mono ?_; rintro e w' ⟨rfl, rfl⟩) | (go_at_call 8; refine (HD.out _).mono ?_; rintro e w' ⟨rfl, rfl⟩) | (go_at_call 10; refine (allLetters_any _ _ (ex_le hs)).mono ?_; rintro e w' ⟨rfl, rfl⟩) | (go_at_call 11; refine (zzLetter_any _ _).mono ?_; rintro e w' ⟨rfl, rfl⟩) | (go_at_call 9; refine (HX.out _).mono ?_; rintro e w' ⟨rfl, rfl⟩))
  all_goals
    go_ret
    exact ⟨ret_bool (by first | (simp; done) | (rw [emp_app]; simp)), rfl⟩

set_option maxHeartbeats 400000 in
theorem g_B2_yes (s : ByteArray) (i : Nat) (w : World) (hs : s.size ≤ maxLen) (_hz : s.size ≤ 1048576) (_hz' : decide (s.size ≤ 1048576) = true) (_h1 : i + 1 < s.size) (_h2 : i + 2 < s.size) (_hb : ((s[i + 1].toNat : Int) == 33) = true) (_hc : ((s[i + 2].toNat : Int) == 123) = true) (j : Nat) (_hj0 : i + 1 + 1 + 1 ≤ j) (_hj : j < s.size) (_hl : allB letB (s.extract (i + 1 + 1 + 1) j) = true)
    (hd : ∀ w, Calls Try.prog 8 #[.string s, .int .i64 i] w fun e w' => e = .returned (.tuple #[.string (⟨#[33]⟩ ++ s.extract (i + 1 + 1 + 1) j), .int .i64 (j + 1)]) ∧ w' = w)
    (hx : ∀ w, Calls Try.prog 9 #[.string s, .int .i64 (i + 1 + 1 + 1), .int .u8 125] w fun e w' => e = .returned (.int .i64 j) ∧ w' = w) :
    Calls Try.prog 3 #[.string s, .int .i64 i] w fun e w' => e = .returned (.bool true) ∧ w' = w := by
  have HD : Hid (_) := hd
  have HX : Hid (_) := hx
  clear hx
  clear hd
  unfold maxLen at hs
  go_enter Try.func3, Try.ntmps3
  go_wp2_with (first | (go_at_call 7; refine (bytes7_any _ _ _ hs).mono ?_; rintro e w' ⟨rfl, rfl⟩) | (go_at_call 8; refine (HD.out _).mono ?_; rintro e w' ⟨rfl, rfl⟩) | (go_at_call 10; refine (allLetters_any _ _ (ex_le hs)).mono ?_; rintro e w' ⟨rfl, rfl⟩) | (go_at_call 11; refine (zzLetter_any _ _).mono ?_; rintro e w' ⟨rfl, rfl⟩) | (go_at_call 9; refine (HX.out _).mono ?_; rintro e w' ⟨rfl, rfl⟩))
  all_goals
    go_ret
    exact ⟨ret_bool (by first | (simp; done) | (rw [emp_app]; simp)), rfl⟩

set_option maxHeartbeats 400000 in
theorem g_B2_no (s : ByteArray) (i : Nat) (w : World) (hs : s.size ≤ maxLen) (_hz : s.size ≤ 1048576) (_hz' : decide (s.size ≤ 1048576) = true) (_h1 : i + 1 < s.size) (_h2 : i + 2 < s.size) (_hb : ((s[i + 1].toNat : Int) == 33) = true) (_hc : ((s[i + 2].toNat : Int) == 123) = true) (j : Nat) (_hj0 : i + 1 + 1 + 1 ≤ j) (_hj : j < s.size) (_hl : allB letB (s.extract (i + 1 + 1 + 1) j) = false)
    (hd : ∀ w, Calls Try.prog 8 #[.string s, .int .i64 i] w fun e w' => e = .returned (.tuple #[.string ⟨#[]⟩, .int .i64 0]) ∧ w' = w)
    (hx : ∀ w, Calls Try.prog 9 #[.string s, .int .i64 (i + 1 + 1 + 1), .int .u8 125] w fun e w' => e = .returned (.int .i64 j) ∧ w' = w) :
    Calls Try.prog 3 #[.string s, .int .i64 i] w fun e w' => e = .returned (.bool true) ∧ w' = w := by
  have HD : Hid (_) := hd
  have HX : Hid (_) := hx
  clear hx
  clear hd
  unfold maxLen at hs
  go_enter Try.func3, Try.ntmps3
  go_wp2_with (first | (go_at_call 7; refine (bytes7_any _ _ _ hs).mono ?_; rintro e w' ⟨rfl, rfl⟩) | (go_at_call 8; refine (HD.out _).mono ?_; rintro e w' ⟨rfl, rfl⟩) | (go_at_call 10; refine (allLetters_any _ _ (ex_le hs)).mono ?_; rintro e w' ⟨rfl, rfl⟩) | (go_at_call 11; refine (zzLetter_any _ _).mono ?_; rintro e w' ⟨rfl, rfl⟩) | (go_at_call 9; refine (HX.out _).mono ?_; rintro e w' ⟨rfl, rfl⟩))
  all_goals
    go_ret
    exact ⟨ret_bool (by first | (simp; done) | (rw [emp_app]; simp)), rfl⟩

set_option maxHeartbeats 400000 in
theorem g_C1_none (s : ByteArray) (i : Nat) (w : World) (hs : s.size ≤ maxLen) (_hz : s.size ≤ 1048576) (_hz' : decide (s.size ≤ 1048576) = true) (_h1 : i + 1 < s.size) (_hb : ((s[i + 1].toNat : Int) == 33) = false) (_hc : ((s[i + 1].toNat : Int) == 123) = true) 
    (hd : ∀ w, Calls Try.prog 8 #[.string s, .int .i64 i] w fun e w' => e = .returned (.tuple #[.string ⟨#[]⟩, .int .i64 0]) ∧ w' = w)
    (hx : ∀ w, Calls Try.prog 9 #[.string s, .int .i64 (i + 1 + 1), .int .u8 125] w fun e w' => e = .returned (.int .i64 (-1)) ∧ w' = w) :
    Calls Try.prog 3 #[.string s, .int .i64 i] w fun e w' => e = .returned (.bool true) ∧ w' = w := by
  have HD : Hid (_) := hd
  have HX : Hid (_) := hx
  clear hx
  clear hd
  unfold maxLen at hs
  go_enter Try.func3, Try.ntmps3
  go_wp2_with (first | (go_at_call 7; refine (bytes7_any _ _ _ hs).mono ?_; rintro e w' ⟨rfl, rfl⟩) | (go_at_call 8; refine (HD.out _).mono ?_; rintro e w' ⟨rfl, rfl⟩) | (go_at_call 10; refine (allLetters_any _ _ (ex_le hs)).mono ?_; rintro e w' ⟨rfl, rfl⟩) | (go_at_call 11; refine (zzLetter_any _ _).mono ?_; rintro e w' ⟨rfl, rfl⟩) | (go_at_call 9; refine (HX.out _).mono ?_; rintro e w' ⟨rfl, rfl⟩))
  all_goals
    go_ret
    exact ⟨ret_bool (by first | (simp; done) | (rw [emp_app]; simp)), rfl⟩

set_option maxHeartbeats 400000 in
theorem g_C1_yes (s : ByteArray) (i : Nat) (w : World) (hs : s.size ≤ maxLen) (_hz : s.size ≤ 1048576) (_hz' : decide (s.size ≤ 1048576) = true) (_h1 : i + 1 < s.size) (_hb : ((s[i + 1].toNat : Int) == 33) = false) (_hc : ((s[i + 1].toNat : Int) == 123) = true) (j : Nat) (_hj0 : i + 1 + 1 ≤ j) (_hj : j < s.size) (_hl : allB letB (s.extract (i + 1 + 1) j) = true)
    (hd : ∀ w, Calls Try.prog 8 #[.string s, .int .i64 i] w fun e w' => e = .returned (.tuple #[.string (s.extract (i + 1 + 1) j), .int .i64 (j + 1)]) ∧ w' = w)
    (hx : ∀ w, Calls Try.prog 9 #[.string s, .int .i64 (i + 1 + 1), .int .u8 125] w fun e w' => e = .returned (.int .i64 j) ∧ w' = w) :
    Calls Try.prog 3 #[.string s, .int .i64 i] w fun e w' => e = .returned (.bool true) ∧ w' = w := by
  have HD : Hid (_) := hd
  have HX : Hid (_) := hx
  clear hx
  clear hd
  unfold maxLen at hs
  go_enter Try.func3, Try.ntmps3
  go_wp2_with (first | (go_at_call 7; refine (bytes7_any _ _ _ hs).mono ?_; rintro e w' ⟨rfl, rfl⟩) | (go_at_call 8; refine (HD.out _).mono ?_; rintro e w' ⟨rfl, rfl⟩) | (go_at_call 10; refine (allLetters_any _ _ (ex_le hs)).mono ?_; rintro e w' ⟨rfl, rfl⟩) | (go_at_call 11; refine (zzLetter_any _ _).mono ?_; rintro e w' ⟨rfl, rfl⟩) | (go_at_call 9; refine (HX.out _).mono ?_; rintro e w' ⟨rfl, rfl⟩))
  all_goals
    go_ret
    exact ⟨ret_bool (by first | (simp; done) | (rw [emp_app]; simp)), rfl⟩

set_option maxHeartbeats 400000 in
theorem g_C1_no (s : ByteArray) (i : Nat) (w : World) (hs : s.size ≤ maxLen) (_hz : s.size ≤ 1048576) (_hz' : decide (s.size ≤ 1048576) = true) (_h1 : i + 1 < s.size) (_hb : ((s[i + 1].toNat : Int) == 33) = false) (_hc : ((s[i + 1].toNat : Int) == 123) = true) (j : Nat) (_hj0 : i + 1 + 1 ≤ j) (_hj : j < s.size) (_hl : allB letB (s.extract (i + 1 + 1) j) = false)
    (hd : ∀ w, Calls Try.prog 8 #[.string s, .int .i64 i] w fun e w' => e = .returned (.tuple #[.string ⟨#[]⟩, .int .i64 0]) ∧ w' = w)
    (hx : ∀ w, Calls Try.prog 9 #[.string s, .int .i64 (i + 1 + 1), .int .u8 125] w fun e w' => e = .returned (.int .i64 j) ∧ w' = w) :
    Calls Try.prog 3 #[.string s, .int .i64 i] w fun e w' => e = .returned (.bool true) ∧ w' = w := by
  have HD : Hid (_) := hd
  have HX : Hid (_) := hx
  clear hx
  clear hd
  unfold maxLen at hs
  go_enter Try.func3, Try.ntmps3
  go_wp2_with (first | (go_at_call 7; refine (bytes7_any _ _ _ hs).mono ?_; rintro e w' ⟨rfl, rfl⟩) | (go_at_call 8; refine (HD.out _).mono ?_; rintro e w' ⟨rfl, rfl⟩) | (go_at_call 10; refine (allLetters_any _ _ (ex_le hs)).mono ?_; rintro e w' ⟨rfl, rfl⟩) | (go_at_call 11; refine (zzLetter_any _ _).mono ?_; rintro e w' ⟨rfl, rfl⟩) | (go_at_call 9; refine (HX.out _).mono ?_; rintro e w' ⟨rfl, rfl⟩))
  all_goals
    go_ret
    exact ⟨ret_bool (by first | (simp; done) | (rw [emp_app]; simp)), rfl⟩

set_option maxHeartbeats 400000 in
theorem g_big (s : ByteArray) (i : Int) (w : World) (hs : s.size ≤ maxLen) (_hz' : decide (s.size ≤ 1048576) = false) :
    Calls Try.prog 3 #[.string s, .int .i64 i] w fun e w' => e = .returned (.bool true) ∧ w' = w := by
  unfold maxLen at hs
  go_enter Try.func3, Try.ntmps3
  go_wp2_with (go_at_call 7; refine (bytes7_any _ _ _ hs).mono ?_; rintro e w' ⟨rfl, rfl⟩)
  go_ret
  exact ⟨rfl, rfl⟩

set_option maxHeartbeats 400000 in
theorem g_neg (s : ByteArray) (i : Int) (w : World) (hs : s.size ≤ maxLen) (_hz : s.size ≤ 1048576) (_hz' : decide (s.size ≤ 1048576) = true) (_hi : i < 0) :
    Calls Try.prog 3 #[.string s, .int .i64 i] w fun e w' => e = .returned (.bool true) ∧ w' = w := by
  unfold maxLen at hs
  go_enter Try.func3, Try.ntmps3
  go_wp2_with (go_at_call 7; refine (bytes7_any _ _ _ hs).mono ?_; rintro e w' ⟨rfl, rfl⟩)
  go_ret
  exact ⟨rfl, rfl⟩

set_option maxHeartbeats 400000 in
theorem g_far (s : ByteArray) (i : Int) (w : World) (hs : s.size ≤ maxLen) (_hz : s.size ≤ 1048576) (_hz' : decide (s.size ≤ 1048576) = true) (_h0 : 0 ≤ i) (_hi : (s.size : Int) ≤ i) :
    Calls Try.prog 3 #[.string s, .int .i64 i] w fun e w' => e = .returned (.bool true) ∧ w' = w := by
  unfold maxLen at hs
  go_enter Try.func3, Try.ntmps3
  go_wp2_with (go_at_call 7; refine (bytes7_any _ _ _ hs).mono ?_; rintro e w' ⟨rfl, rfl⟩)
  go_ret
  exact ⟨rfl, rfl⟩

theorem core (s : ByteArray) (x : Int) (w : World) (hs : s.size ≤ maxLen) :
    Calls Try.prog 3 #[.string s, .int .i64 x] w fun e w' => e = .returned (.bool true) ∧ w' = w := by
  by_cases hzn : ¬ s.size ≤ 1048576
  · exact g_big s x w hs (by simpa using hzn)
  have hz : s.size ≤ 1048576 := by omega
  have hz' : decide (s.size ≤ 1048576) = true := by simpa using hz
  by_cases hneg : x < 0
  · exact g_neg s x w hs hz hz' hneg
  by_cases hfar : (s.size : Int) ≤ x
  · exact g_far s x w hs hz hz' (by omega) hfar
  obtain ⟨i, rfl⟩ := Int.eq_ofNat_of_zero_le (show 0 ≤ x by omega)
  have hi : i < s.size := by omega
  -- the plain way: no brace
  have plain : ∀ (bang : Bool) (st : Nat), st ≤ s.size → bangB s i = bang → brcB s i = false → stOf s i = st →
      ∃ j, st ≤ j ∧ j ≤ s.size ∧ letB (bt s j) = false ∧ allB letB (s.extract st j) = true ∧
        ∀ w, Calls Try.prog 8 #[.string s, .int .i64 i] w fun e w' => e = .returned (.tuple #[.string (if bang = true then ⟨#[33]⟩ ++ s.extract st j else s.extract st j), .int .i64 j]) ∧ w' = w := by
    intro bang st hst g1 g2 g3
    obtain ⟨j, hj, hr⟩ := run_exists letB letB0 s st hst
    refine ⟨j, hr.1, hj, hr.2.2, (allB_extract hj).2 hr.2.1, fun w => ?_⟩
    refine (zzdir_reads s i st j bang false w hs hi g1 g2 g3 hr).mono ?_
    rintro e w' ⟨rfl, rfl⟩
    refine ⟨?_, rfl⟩
    simp [dirName, dirEnd]
  have brace : ∀ (bang : Bool) (st : Nat), st ≤ s.size → bangB s i = bang → brcB s i = true → stOf s i = st →
      ((∀ w, Calls Try.prog 8 #[.string s, .int .i64 i] w fun e w' => e = .returned (.tuple #[.string ⟨#[]⟩, .int .i64 0]) ∧ w' = w) ∧
        (∀ (x : Int), x = st → ∀ w, Calls Try.prog 9 #[.string s, .int .i64 x, .int .u8 125] w fun e w' => e = .returned (.int .i64 (-1)) ∧ w' = w)) ∨
      (∃ k, st ≤ k ∧ k < s.size ∧ allB letB (s.extract st k) = true ∧
        (∀ w, Calls Try.prog 8 #[.string s, .int .i64 i] w fun e w' => e = .returned (.tuple #[.string (if bang = true then ⟨#[33]⟩ ++ s.extract st k else s.extract st k), .int .i64 (k + 1)]) ∧ w' = w) ∧
        (∀ (x : Int), x = st → ∀ w, Calls Try.prog 9 #[.string s, .int .i64 x, .int .u8 125] w fun e w' => e = .returned (.int .i64 k) ∧ w' = w)) ∨
      (∃ k, st ≤ k ∧ k < s.size ∧ allB letB (s.extract st k) = false ∧
        (∀ w, Calls Try.prog 8 #[.string s, .int .i64 i] w fun e w' => e = .returned (.tuple #[.string ⟨#[]⟩, .int .i64 0]) ∧ w' = w) ∧
        (∀ (x : Int), x = st → ∀ w, Calls Try.prog 9 #[.string s, .int .i64 x, .int .u8 125] w fun e w' => e = .returned (.int .i64 k) ∧ w' = w)) := by
    intro bang st hst g1 g2 g3
    obtain ⟨j, hj, hr⟩ := run_exists letB letB0 s st hst
    have bad : bt s j ≠ 125 → ∀ w, Calls Try.prog 8 #[.string s, .int .i64 i] w fun e w' => e = .returned (.tuple #[.string ⟨#[]⟩, .int .i64 0]) ∧ w' = w := by
      intro hne w
      refine (zzdir_reads s i st j bang true w hs hi g1 g2 g3 hr).mono ?_
      rintro e w' ⟨rfl, rfl⟩
      refine ⟨?_, rfl⟩
      simp [dirName, dirEnd, hne]
    rcases idx_exists s 125 st with h | ⟨k, k1, k2, k3, k4⟩
    · left
      have hne : bt s j ≠ 125 := by
        by_cases hlt : j < s.size
        · exact h j hr.1 hlt
        · rw [bt_out (by omega)]; decide
      exact ⟨bad hne, fun x hx w => index_none s x st 125 w hs hx h⟩
    · right
      cases hl : allB letB (s.extract st k) with
      | true =>
        left
        have hk : Run letB (bt s) st k := ⟨k1, (allB_extract (by omega)).1 hl, by rw [k3]; decide⟩
        refine ⟨k, k1, k2, hl, fun w => ?_, fun x hx w => index_at s x st 125 k w hs hx k1 k2 k3 k4⟩
        refine (zzdir_reads s i st k bang true w hs hi g1 g2 g3 hk).mono ?_
        rintro e w' ⟨rfl, rfl⟩
        refine ⟨?_, rfl⟩
        simp [dirName, dirEnd, k3]
      | false =>
        right
        refine ⟨k, k1, k2, hl, bad ?_, fun x hx w => index_at s x st 125 k w hs hx k1 k2 k3 k4⟩
        have hjk : j < k := by
          apply Classical.byContradiction
          intro hge
          have : allB letB (s.extract st k) = true := (allB_extract (by omega)).2 fun m a b => hr.2.1 m a (by omega)
          rw [hl] at this; cases this
        exact k4 j hr.1 hjk
  by_cases h1 : i + 1 < s.size
  · have e1 := bt_in h1
    by_cases h2 : bt s (i + 1) = 33
    · have hbang : bangB s i = true := by unfold bangB; simp [h2]
      have hhd : hdOf s i = i + 2 := by unfold hdOf; rw [if_pos hbang]
      have q1 : ((s[i + 1].toNat : Int) == 33) = true := by rw [e1, h2]; rfl
      by_cases h3 : i + 2 < s.size
      · have e2 := bt_in h3
        by_cases h4 : bt s (i + 2) = 123
        · have hbrc : brcB s i = true := by unfold brcB; rw [hhd]; simp [h4]
          have q2 : ((s[i + 2].toNat : Int) == 123) = true := by rw [e2, h4]; rfl
          rcases brace true (i + 1 + 1 + 1) (by omega) hbang hbrc (by unfold stOf; rw [if_pos hbrc, hhd]) with ⟨a, b⟩ | ⟨k, k1, k2, k3, a, b⟩ | ⟨k, k1, k2, k3, a, b⟩
          · exact g_B2_none s i w hs hz hz' h1 h3 q1 q2 a (b _ (by omega))
          · exact g_B2_yes s i w hs hz hz' h1 h3 q1 q2 k k1 k2 k3 a (b _ (by omega))
          · exact g_B2_no s i w hs hz hz' h1 h3 q1 q2 k k1 k2 k3 a (b _ (by omega))
        · have hbrc : brcB s i = false := by unfold brcB; rw [hhd]; simp [h4]
          have q2 : ((s[i + 2].toNat : Int) == 123) = false := by rw [e2]; simpa using h4
          obtain ⟨j, j1, j2, j3, j4, a⟩ := plain true (i + 1 + 1) (by omega) hbang hbrc (by unfold stOf; rw [hbrc, hhd]; rfl)
          by_cases hj : j = s.size
          · exact g_B3_end s i w hs hz hz' h1 h3 q1 q2 j j1 j4 hj a
          · have hj' : j < s.size := by omega
            exact g_B3_in s i w hs hz hz' h1 h3 q1 q2 j j1 j4 hj' (by rw [bt_in hj']; exact j3) a
      · have hbrc : brcB s i = false := by unfold brcB; rw [hhd, bt_out (by omega)]; rfl
        obtain ⟨j, j1, j2, j3, j4, a⟩ := plain true (i + 1 + 1) (by omega) hbang hbrc (by unfold stOf; rw [hbrc, hhd]; rfl)
        exact g_B1_end s i w hs hz hz' h1 (by omega) q1 j j1 j4 (by omega) a
    · have hbang : bangB s i = false := by unfold bangB; simp [h2]
      have hhd : hdOf s i = i + 1 := by unfold hdOf; rw [hbang]; rfl
      have q1 : ((s[i + 1].toNat : Int) == 33) = false := by rw [e1]; simpa using h2
      by_cases h4 : bt s (i + 1) = 123
      · have hbrc : brcB s i = true := by unfold brcB; rw [hhd]; simp [h4]
        have q2 : ((s[i + 1].toNat : Int) == 123) = true := by rw [e1, h4]; rfl
        rcases brace false (i + 1 + 1) (by omega) hbang hbrc (by unfold stOf; rw [if_pos hbrc, hhd]) with ⟨a, b⟩ | ⟨k, k1, k2, k3, a, b⟩ | ⟨k, k1, k2, k3, a, b⟩
        · exact g_C1_none s i w hs hz hz' h1 q1 q2 a (b _ (by omega))
        · exact g_C1_yes s i w hs hz hz' h1 q1 q2 k k1 k2 k3 a (b _ (by omega))
        · exact g_C1_no s i w hs hz hz' h1 q1 q2 k k1 k2 k3 a (b _ (by omega))
      · have hbrc : brcB s i = false := by unfold brcB; rw [hhd]; simp [h4]
        have q2 : ((s[i + 1].toNat : Int) == 123) = false := by rw [e1]; simpa using h4
        obtain ⟨j, j1, j2, j3, j4, a⟩ := plain false (i + 1) (by omega) hbang hbrc (by unfold stOf; rw [hbrc, hhd]; rfl)
        by_cases hj : j = s.size
        · exact g_C2_end s i w hs hz hz' h1 q1 q2 j j1 j4 hj a
        · have hj' : j < s.size := by omega
          exact g_C2_in s i w hs hz hz' h1 q1 q2 j j1 j4 hj' (by rw [bt_in hj']; exact j3) a
  · have hbang : bangB s i = false := by unfold bangB; rw [bt_out (by omega)]; rfl
    have hhd : hdOf s i = i + 1 := by unfold hdOf; rw [hbang]; rfl
    have hbrc : brcB s i = false := by unfold brcB; rw [hhd, bt_out (by omega)]; rfl
    obtain ⟨j, j1, j2, j3, j4, a⟩ := plain false (i + 1) (by omega) hbang hbrc (by unfold stOf; rw [hbrc, hhd]; rfl)
    exact g_A_end s i w hs hz hz' (by omega) hi j j1 j4 (by omega) a

/-! ### STEP 1: THE WALK: the Go text returns true. 'Grown w w'': the world has at most new blocks (Derived/RowKit3.lean). Part the cases AHEAD of 'go_enter' where a test parts the walk; take each callee by a contract of your own. -/
theorem walk (a0 : ByteArray) (a1 : Int) (w0 : a0.size ≤ maxLen) (w1 : (Lit.int .i64 a1).wf = true) (w : World) :
    Calls Try.prog 3 #[.string a0, .int .i64 a1] w fun e w' => e = .returned (.bool true) ∧ Grown w w' := by
  refine (core a0 a1 w w0).mono ?_
  rintro e w' ⟨rfl, rfl⟩
  exact ⟨rfl, Grown.refl _⟩

/-! ### THE ROW's STEP: WRITTEN OUT: LEAVE IT -/
set_option maxRecDepth 100000 in
theorem lifted (os : Os) (started : os.Started) (H : Type) (enc : TypeId × Value → H) :
    ReturnsInHanded {} Try.checked os 3 .any (Rows.fnDirectiveAtMatchesGrammarSpec.pre6 enc Try.prog Try.f3 Rows.fnDirectiveAtMatchesGrammarRow.domain false) (Rows.fnDirectiveAtMatchesGrammarSpec.post enc Try.prog Try.f3 false true false false) := by
  refine returnsInHanded_of_change (C := Try.checked) own started (by kernel_rfl) Try.func3
    (ChangeSpec.witness6 (enc := enc) (C := Try.checked) false ⟨#[], #[.string ByteArray.empty, .int .i64 0], []⟩ 8 (by kernel_rfl) (by kernel_rfl) (by kernel_rfl) (by kernel_rfl)) ?_
  intro W base args ds gs before hval0 hW hcnd _
  have hval : ∀ (j : Nat) t v, Try.f3.params[j]? = some t → args[j]? = some v → Value.okWide Try.prog W .any base t v := hval0
  have hW' := hW
  obtain ⟨p, q, hA0, hV, rfl, hfz, hnd⟩ := hW
  have hA : DataW.TrodAll enc Try.prog W 0 (fun _ => true) true Try.f3.params.toList args.toList ds p := hA0
  rw [Try.params3] at hA hval
  obtain ⟨v0, vs0, d0, ds0, p0, q0, hargs, rfl, rfl, h0, r0⟩ := trodAll_cons hA
  obtain ⟨v1, vs1, d1, ds1, p1, q1, rfl, rfl, rfl, h1, r1⟩ := trodAll_cons r0
  obtain ⟨rfl, rfl, rfl⟩ := trodAll_nil r1
  obtain rfl : args = #[v0, v1] := by cases args; simp_all
  obtain ⟨rfl, rfl⟩ := trodVars_none hV
  obtain ⟨a0, rfl, rfl, rfl, w0⟩ := open_string Try.underlying9 (hval 0 9 v0 rfl rfl) h0
  obtain ⟨a1, rfl, rfl, rfl, w1⟩ := open_int Try.underlying3 (hval 1 3 v1 rfl rfl) h1
  clear hA0 hval0
  simp only [List.append_nil] at hW'
  refine (walk a0 a1 w0 w1 W).mono fun e W' ⟨he, hg⟩ => ?_
  subst he
  exact ⟨_, rfl, post_of_same (pa := []) (pv := []) hW' (fun _ _ _ => (trodAll_cons_mk (shut_bool Try.underlying4 _) trodAll_mk0)) (fun sp _ => (trodAll_cons_mk (shut_string Try.underlying9 w0) (trodAll_cons_mk (shut_int Try.underlying3 w1) trodAll_mk0))) (fun _ _ => rfl) rfl
    (hg.frame _) hg.2.1 (ok_one (by kernel_rfl) rfl (okWide_bool_mk Try.underlying4 _))⟩

theorem over : Rows.fnDirectiveAtMatchesGrammarRow.holds Try.pinned (OpenSpec.ofChange Rows.fnDirectiveAtMatchesGrammarSpec) :=
  OpenClaim.holds_of_wide 3 Try.f3 rfl rfl rfl rfl rfl rfl rfl ⟨rfl, rfl, rfl, rfl, rfl⟩ rfl rfl rfl rfl rfl (by kernel_rfl) Try.func3 (by kernel_rfl)
    (of_decide_eq_true (by kernel_rfl)) (by unfold Func.isWrapper; first | (rw [if_pos (by decide +kernel)]; kernel_rfl) | (rw [if_neg (by decide +kernel)]; exact ⟨rfl, rfl⟩))
    (fun os started H enc _ => lifted os started H enc)

/-- ████ THE STATEMENT ████ -/
theorem proved : Rows.FnDirectiveAtMatchesGrammarSaid :=
  over
end Go.Proofs.Qxb6605398a.fnDirectiveAtMatchesGrammar
