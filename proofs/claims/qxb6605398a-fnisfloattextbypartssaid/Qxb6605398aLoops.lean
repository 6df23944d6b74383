import Derived.Test.Qxb6605398aLeaf
namespace Go.Proofs.Qxb6605398a
open Go.RowKit

/-- The byte at an index, 0 past the end. -/
def bt (s : ByteArray) (k : Nat) : Int := if h : k < s.size then (s[k].toNat : Int) else 0
theorem bt_in {s : ByteArray} {k : Nat} (h : k < s.size) : (s[k].toNat : Int) = bt s k := by unfold bt; rw [dif_pos h]
theorem bt_out {s : ByteArray} {k : Nat} (h : s.size ≤ k) : bt s k = 0 := by unfold bt; rw [dif_neg (by omega)]
theorem bt_bd (s : ByteArray) (k : Nat) : 0 ≤ bt s k ∧ bt s k < 256 := by
  unfold bt
  split
  · rename_i h
    have := s[k].toNat_lt
    omega
  · omega

/-- From i on the bytes are of the kind p up to j, and the one at j is not. -/
def Run (p : Int → Bool) (f : Nat → Int) (i j : Nat) : Prop := i ≤ j ∧ (∀ k, i ≤ k → k < j → p (f k) = true) ∧ p (f j) = false
theorem Run.uniq {p : Int → Bool} {f : Nat → Int} {i j k : Nat} (a : Run p f i j) (b : Run p f i k) : j = k := by
  obtain ⟨a1, a2, a3⟩ := a
  obtain ⟨b1, b2, b3⟩ := b
  rcases Nat.lt_trichotomy j k with h | h | h
  · have := b2 j a1 h; rw [a3] at this; cases this
  · exact h
  · have := a2 k b1 h; rw [b3] at this; cases this

def allB (p : Int → Bool) (t : ByteArray) : Bool := decide (∀ k, k < t.size → p (bt t k) = true)

theorem ret_int {k : IntKind} {a b : Int} (h : a = b) : Ending.returned (.int k a) = .returned (.int k b) := by rw [h]
theorem letB0 : letB 0 = false := by decide
theorem digB0 : digB 0 = false := by decide

set_option maxHeartbeats 400000 in
theorem skip_any (s : ByteArray) (i : Nat) (w : World) (hs : s.size ≤ maxLen) (hi : i ≤ s.size) :
    Calls Try.prog 22 #[.string s, .int .i64 i] w fun e w' => ∃ j : Nat, e = .returned (.int .i64 j) ∧ j ≤ s.size ∧ Run digB (bt s) i j ∧ w' = w := by
  unfold maxLen at hs
  go_enter Try.func22, Try.ntmps22
  go_wp2
  go_loop [1] (fun x => ∃ k : Nat, i ≤ k ∧ k ≤ s.size ∧ (∀ m, i ≤ m → m < k → digB (bt s m) = true) ∧ x = .int .i64 k) (fun i => s.size - (intOf i).toNat)
  case atStart => exact ⟨i, by omega, by omega, fun m a b => by omega, rfl⟩
  case round =>
    obtain ⟨k, hik, hk, hall, rfl⟩ := hrel
    have HA : Hid (_) := hall
    clear hall
    by_cases hlt : k < s.size
    · have hb := bt_in hlt
      have HB : Hid (_) := hb
      clear hb
      go_wp2_with (go_at_call 23; refine (isDigit_any _ _).mono ?_; rintro e w' ⟨rfl, rfl⟩)
      · have ht : digB ↑s[k].toNat = true := by assumption
        go_round
        case rel =>
          refine ⟨k + 1, by omega, by omega, ?_, by go_num⟩
          intro m a b
          by_cases hm : m = k
          · subst hm; rw [← HB.out]; exact ht
          · exact HA.out m a (by omega)
        case measure => simp [intOf]; omega
      · have ht : digB ↑s[k].toNat = false := by assumption
        go_ret
        exact ⟨k, rfl, hk, ⟨hik, HA.out, by rw [← HB.out]; exact ht⟩, rfl⟩
    · go_wp2
      go_ret
      exact ⟨k, rfl, hk, ⟨hik, HA.out, by rw [bt_out (by omega)]; exact digB0⟩, rfl⟩

theorem allB_true {p : Int → Bool} {t : ByteArray} : allB p t = true ↔ ∀ k, k < t.size → p (bt t k) = true := by
  unfold allB; simp
theorem allB_false {p : Int → Bool} {t : ByteArray} : allB p t = false ↔ ∃ k, k < t.size ∧ p (bt t k) = false := by
  unfold allB; simp

set_option maxHeartbeats 400000 in
theorem allLetters_any (s : ByteArray) (w : World) (hs : s.size ≤ maxLen) :
    Calls Try.prog 10 #[.string s] w fun e w' => e = .returned (.bool (allB letB s)) ∧ w' = w := by
  unfold maxLen at hs
  go_enter Try.func10, Try.ntmps10
  go_wp2
  go_loop [3] (fun x => ∃ k : Nat, k ≤ s.size ∧ (∀ m, m < k → letB (bt s m) = true) ∧ x = .int .i64 k) (fun i => s.size - (intOf i).toNat)
  case atStart => exact ⟨0, by omega, fun m b => by omega, rfl⟩
  case round =>
    obtain ⟨k, hk, hall, rfl⟩ := hrel
    have HA : Hid (_) := hall
    clear hall
    by_cases hlt : k < s.size
    · have HB : Hid (_) := bt_in hlt
      go_wp2_with (go_at_call 11; refine (zzLetter_any _ _).mono ?_; rintro e w' ⟨rfl, rfl⟩)
      · have ht : (!letB ↑s[k].toNat) = true := by assumption
        go_ret
        exact ⟨ret_bool (allB_false.2 ⟨k, hlt, by rw [← HB.out]; simpa using ht⟩).symm, rfl⟩
      · have ht : (!letB ↑s[k].toNat) = false := by assumption
        go_round
        case rel =>
          refine ⟨k + 1, by omega, ?_, by go_num⟩
          intro m b
          by_cases hm : m = k
          · subst hm; rw [← HB.out]; simpa using ht
          · exact HA.out m (by omega)
        case measure => simp [intOf]; omega
    · go_wp2
      go_ret
      exact ⟨ret_bool (allB_true.2 fun m a => HA.out m (by omega)).symm, rfl⟩

set_option maxHeartbeats 400000 in
theorem allDigits_any (s : ByteArray) (w : World) (hs : s.size ≤ maxLen) :
    Calls Try.prog 17 #[.string s] w fun e w' => e = .returned (.bool (allB digB s)) ∧ w' = w := by
  unfold maxLen at hs
  go_enter Try.func17, Try.ntmps17
  go_wp2
  go_loop [3] (fun x => ∃ k : Nat, k ≤ s.size ∧ (∀ m, m < k → digB (bt s m) = true) ∧ x = .int .i64 k) (fun i => s.size - (intOf i).toNat)
  case atStart => exact ⟨0, by omega, fun m b => by omega, rfl⟩
  case round =>
    obtain ⟨k, hk, hall, rfl⟩ := hrel
    have HA : Hid (_) := hall
    clear hall
    by_cases hlt : k < s.size
    · have HB : Hid (_) := bt_in hlt
      go_wp2_with (go_at_call 20; refine (zzDigit_any _ _).mono ?_; rintro e w' ⟨rfl, rfl⟩)
      · have ht : (!digB ↑s[k].toNat) = true := by assumption
        go_ret
        exact ⟨ret_bool (allB_false.2 ⟨k, hlt, by rw [← HB.out]; simpa using ht⟩).symm, rfl⟩
      · have ht : (!digB ↑s[k].toNat) = false := by assumption
        go_round
        case rel =>
          refine ⟨k + 1, by omega, ?_, by go_num⟩
          intro m b
          by_cases hm : m = k
          · subst hm; rw [← HB.out]; simpa using ht
          · exact HA.out m (by omega)
        case measure => simp [intOf]; omega
    · go_wp2
      go_ret
      exact ⟨ret_bool (allB_true.2 fun m a => HA.out m (by omega)).symm, rfl⟩

set_option maxHeartbeats 400000 in
theorem indexFrom_any (s : ByteArray) (i : Nat) (c : Int) (w : World) (hs : s.size ≤ maxLen) :
    Calls Try.prog 9 #[.string s, .int .i64 i, .int .u8 c] w fun e w' => w' = w ∧
      ((e = .returned (.int .i64 (-1)) ∧ ∀ m, i ≤ m → m < s.size → bt s m ≠ c) ∨
       (∃ k : Nat, e = .returned (.int .i64 k) ∧ i ≤ k ∧ k < s.size ∧ bt s k = c ∧ ∀ m, i ≤ m → m < k → bt s m ≠ c)) := by
  unfold maxLen at hs
  go_enter Try.func9, Try.ntmps9
  go_wp2
  go_loop [7] (fun x => ∃ k : Nat, i ≤ k ∧ (∀ m, i ≤ m → m < k → bt s m ≠ c) ∧ x = .int .i64 k) (fun i => s.size - (intOf i).toNat)
  case atStart => exact ⟨i, by omega, fun m a b => by omega, rfl⟩
  case round =>
    obtain ⟨k, hik, hall, rfl⟩ := hrel
    have HA : Hid (_) := hall
    clear hall
    by_cases hlt : k < s.size
    · have HB : Hid (_) := bt_in hlt
      go_wp2
      · have ht : ((s[k].toNat : Int) == c) = true := by assumption
        go_ret
        exact ⟨rfl, Or.inr ⟨k, rfl, hik, hlt, by rw [← HB.out]; simpa using ht, HA.out⟩⟩
      · have ht : ((s[k].toNat : Int) == c) = false := by assumption
        go_round
        case rel =>
          refine ⟨k + 1, by omega, ?_, by go_num⟩
          intro m a b
          by_cases hm : m = k
          · subst hm; rw [← HB.out]; simpa using ht
          · exact HA.out m a (by omega)
        case measure => simp [intOf]; omega
    · go_wp2
      go_ret
      exact ⟨rfl, Or.inl ⟨rfl, fun m a b => HA.out m a (by omega)⟩⟩

end Go.Proofs.Qxb6605398a
