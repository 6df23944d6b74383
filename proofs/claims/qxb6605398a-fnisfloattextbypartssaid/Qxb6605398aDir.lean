import Derived.Test.Qxb6605398aLoops
namespace Go.Proofs.Qxb6605398a
open Go.RowKit

/-- What directiveAt answers: bang, braced, where the letters begin and where they end. -/
def dirName (s : ByteArray) (bang brc : Bool) (st j : Nat) : ByteArray :=
  if brc = true ∧ bt s j ≠ 125 then ⟨#[]⟩ else if bang = true then ⟨#[33]⟩ ++ s.extract st j else s.extract st j
def dirEnd (s : ByteArray) (brc : Bool) (j : Nat) : Int :=
  if brc = true ∧ bt s j ≠ 125 then 0 else if brc = true then (j : Int) + 1 else (j : Int)
def dirOut (s : ByteArray) (bang brc : Bool) (st j : Nat) : Ending :=
  .returned (.tuple #[.string (dirName s bang brc st j), .int .i64 (dirEnd s brc j)])

theorem out_bad {s : ByteArray} {bang : Bool} {st j : Nat} (h : bt s j ≠ 125) : Ending.returned (.tuple #[.string ⟨#[]⟩, .int .i64 0]) = dirOut s bang true st j := by
  unfold dirOut dirName dirEnd; rw [if_pos ⟨rfl, h⟩, if_pos ⟨rfl, h⟩]
theorem out_tt {s : ByteArray} {st j : Nat} (h : bt s j = 125) : Ending.returned (.tuple #[.string (⟨#[33]⟩ ++ s.extract st j), .int .i64 ((j : Int) + 1)]) = dirOut s true true st j := by
  simp [dirOut, dirName, dirEnd, h]
theorem out_ft {s : ByteArray} {st j : Nat} (h : bt s j = 125) : Ending.returned (.tuple #[.string (s.extract st j), .int .i64 ((j : Int) + 1)]) = dirOut s false true st j := by
  simp [dirOut, dirName, dirEnd, h]
theorem out_tf {s : ByteArray} {st j : Nat} : Ending.returned (.tuple #[.string (⟨#[33]⟩ ++ s.extract st j), .int .i64 (j : Int)]) = dirOut s true false st j := by
  simp [dirOut, dirName, dirEnd]
theorem out_ff {s : ByteArray} {st j : Nat} : Ending.returned (.tuple #[.string (s.extract st j), .int .i64 (j : Int)]) = dirOut s false false st j := by
  simp [dirOut, dirName, dirEnd]
theorem neq_of {s : ByteArray} {k : Nat} (hlt : k < s.size) (hb : (s[k].toNat : Int) = bt s k) (h : ((k : Int) == (s.size : Int)) = true ∨ ((s[k].toNat : Int) != 125) = true) : bt s k ≠ 125 := by
  rcases h with h | h
  · have : (k : Int) = s.size := by simpa using h
    omega
  · rw [← hb]; simpa using h
theorem eq_of {s : ByteArray} {k : Nat} {hlt : k < s.size} (hb : (s[k].toNat : Int) = bt s k) (h : ((k : Int) == (s.size : Int)) = false ∧ ((s[k].toNat : Int) != 125) = false) : bt s k = 125 := by
  rw [← hb]; simpa using h.2
theorem out_ne {s : ByteArray} {k : Nat} (h : s.size ≤ k) : bt s k ≠ 125 := by rw [bt_out h]; decide

set_option maxHeartbeats 400000 in
theorem dir_A (s : ByteArray) (i : Nat) (w : World) (hs : s.size ≤ maxLen) (h1 : i + 1 = s.size) :
    Calls Try.prog 18 #[.string s, .int .i64 i] w fun e w' => w' = w ∧ ∃ j, Run letB (bt s) (i + 1) j ∧ j ≤ s.size ∧ e = dirOut s false false (i + 1) j := by
  unfold maxLen at hs
  have h1' : s.size ≤ i + 1 := by omega
  have h1'' : i + 1 ≤ s.size := by omega
  clear h1
  go_enter Try.func18, Try.ntmps18
  go_wp2
  go_loop [6] (fun x => ∃ k : Nat, i + 1 ≤ k ∧ k ≤ s.size ∧ (∀ m, i + 1 ≤ m → m < k → letB (bt s m) = true) ∧ x = .int .i64 k) (fun i => s.size - (intOf i).toNat)
  case atStart => exact ⟨i + 1, by omega, by omega, fun m a b => by omega, by go_num⟩
  case round =>
    obtain ⟨k, hik, hk, hall, rfl⟩ := hrel
    have HA : Hid (_) := hall
    clear hall
    by_cases hlt : k < s.size
    · exact absurd hlt (by omega)
    · go_wp2
      go_ret2
      exact ⟨rfl, k, ⟨hik, HA.out, by rw [bt_out (by omega)]; exact letB0⟩, hk, out_ff⟩

set_option maxHeartbeats 400000 in
theorem dir_B1 (s : ByteArray) (i : Nat) (w : World) (hs : s.size ≤ maxLen) (h1 : i + 1 < s.size) (h2 : i + 2 = s.size) (hb : ((s[i + 1].toNat : Int) == 33) = true) :
    Calls Try.prog 18 #[.string s, .int .i64 i] w fun e w' => w' = w ∧ ∃ j, Run letB (bt s) (i + 2) j ∧ j ≤ s.size ∧ e = dirOut s true false (i + 2) j := by
  unfold maxLen at hs
  have h2' : s.size ≤ i + 2 := by omega
  have h2'' : i + 2 ≤ s.size := by omega
  clear h2
  go_enter Try.func18, Try.ntmps18
  go_wp2
  go_loop [6] (fun x => ∃ k : Nat, i + 2 ≤ k ∧ k ≤ s.size ∧ (∀ m, i + 2 ≤ m → m < k → letB (bt s m) = true) ∧ x = .int .i64 k) (fun i => s.size - (intOf i).toNat)
  case atStart => exact ⟨i + 2, by omega, by omega, fun m a b => by omega, by go_num⟩
  case round =>
    obtain ⟨k, hik, hk, hall, rfl⟩ := hrel
    have HA : Hid (_) := hall
    clear hall
    by_cases hlt : k < s.size
    · exact absurd hlt (by omega)
    · go_wp2
      go_ret2
      exact ⟨rfl, k, ⟨hik, HA.out, by rw [bt_out (by omega)]; exact letB0⟩, hk, out_tf⟩

set_option maxHeartbeats 400000 in
theorem dir_B2 (s : ByteArray) (i : Nat) (w : World) (hs : s.size ≤ maxLen) (h1 : i + 1 < s.size) (h2 : i + 2 < s.size) (hb : ((s[i + 1].toNat : Int) == 33) = true) (hc : ((s[i + 2].toNat : Int) == 123) = true) :
    Calls Try.prog 18 #[.string s, .int .i64 i] w fun e w' => w' = w ∧ ∃ j, Run letB (bt s) (i + 3) j ∧ j ≤ s.size ∧ e = dirOut s true true (i + 3) j := by
  unfold maxLen at hs
  go_enter Try.func18, Try.ntmps18
  go_wp2
  go_loop [6] (fun x => ∃ k : Nat, i + 3 ≤ k ∧ k ≤ s.size ∧ (∀ m, i + 3 ≤ m → m < k → letB (bt s m) = true) ∧ x = .int .i64 k) (fun i => s.size - (intOf i).toNat)
  case atStart => exact ⟨i + 3, by omega, by omega, fun m a b => by omega, by go_num⟩
  case round =>
    obtain ⟨k, hik, hk, hall, rfl⟩ := hrel
    have HA : Hid (_) := hall
    clear hall
    by_cases hlt : k < s.size
    · have HB : Hid (_) := bt_in hlt
      go_wp2_with (go_at_call 21; refine (isLetter_any _ _ (byte_bd _).1 (byte_bd _).2).mono ?_; rintro e w' ⟨rfl, rfl⟩)
      · have ht : letB ↑s[k].toNat = true := by assumption
        go_round
        case rel =>
          refine ⟨k + 1, by omega, by omega, ?_, by go_num⟩
          intro m a b
          by_cases hm : m = k
          · subst hm; rw [← HB.out]; exact ht
          · exact HA.out m a (by omega)
        case measure => simp [intOf]; omega
      · have ht : letB ↑s[k].toNat = false := by assumption
        have hq : ((k : Int) == (s.size : Int)) = true ∨ ((s[k].toNat : Int) != 125) = true := by assumption
        go_ret2
        exact ⟨rfl, k, ⟨hik, HA.out, by rw [← HB.out]; exact ht⟩, hk, out_bad (neq_of hlt HB.out hq)⟩
      · have ht : letB ↑s[k].toNat = false := by assumption
        have hq : ((k : Int) == (s.size : Int)) = false ∧ ((s[k].toNat : Int) != 125) = false := by assumption
        go_ret2
        exact ⟨rfl, k, ⟨hik, HA.out, by rw [← HB.out]; exact ht⟩, hk, out_tt (eq_of HB.out hq)⟩
    · go_wp2
      go_ret2
      exact ⟨rfl, k, ⟨hik, HA.out, by rw [bt_out (by omega)]; exact letB0⟩, hk, out_bad (out_ne (by omega))⟩

set_option maxHeartbeats 400000 in
theorem dir_B3 (s : ByteArray) (i : Nat) (w : World) (hs : s.size ≤ maxLen) (h1 : i + 1 < s.size) (h2 : i + 2 < s.size) (hb : ((s[i + 1].toNat : Int) == 33) = true) (hc : ((s[i + 2].toNat : Int) == 123) = false) :
    Calls Try.prog 18 #[.string s, .int .i64 i] w fun e w' => w' = w ∧ ∃ j, Run letB (bt s) (i + 2) j ∧ j ≤ s.size ∧ e = dirOut s true false (i + 2) j := by
  unfold maxLen at hs
  go_enter Try.func18, Try.ntmps18
  go_wp2
  go_loop [6] (fun x => ∃ k : Nat, i + 2 ≤ k ∧ k ≤ s.size ∧ (∀ m, i + 2 ≤ m → m < k → letB (bt s m) = true) ∧ x = .int .i64 k) (fun i => s.size - (intOf i).toNat)
  case atStart => exact ⟨i + 2, by omega, by omega, fun m a b => by omega, by go_num⟩
  case round =>
    obtain ⟨k, hik, hk, hall, rfl⟩ := hrel
    have HA : Hid (_) := hall
    clear hall
    by_cases hlt : k < s.size
    · have HB : Hid (_) := bt_in hlt
      go_wp2_with (go_at_call 21; refine (isLetter_any _ _ (byte_bd _).1 (byte_bd _).2).mono ?_; rintro e w' ⟨rfl, rfl⟩)
      · have ht : letB ↑s[k].toNat = true := by assumption
        go_round
        case rel =>
          refine ⟨k + 1, by omega, by omega, ?_, by go_num⟩
          intro m a b
          by_cases hm : m = k
          · subst hm; rw [← HB.out]; exact ht
          · exact HA.out m a (by omega)
        case measure => simp [intOf]; omega
      · have ht : letB ↑s[k].toNat = false := by assumption
        go_ret2
        exact ⟨rfl, k, ⟨hik, HA.out, by rw [← HB.out]; exact ht⟩, hk, out_tf⟩
    · go_wp2
      go_ret2
      exact ⟨rfl, k, ⟨hik, HA.out, by rw [bt_out (by omega)]; exact letB0⟩, hk, out_tf⟩

set_option maxHeartbeats 400000 in
theorem dir_C1 (s : ByteArray) (i : Nat) (w : World) (hs : s.size ≤ maxLen) (h1 : i + 1 < s.size) (hb : ((s[i + 1].toNat : Int) == 33) = false) (hc : ((s[i + 1].toNat : Int) == 123) = true) :
    Calls Try.prog 18 #[.string s, .int .i64 i] w fun e w' => w' = w ∧ ∃ j, Run letB (bt s) (i + 2) j ∧ j ≤ s.size ∧ e = dirOut s false true (i + 2) j := by
  unfold maxLen at hs
  go_enter Try.func18, Try.ntmps18
  go_wp2
  go_loop [6] (fun x => ∃ k : Nat, i + 2 ≤ k ∧ k ≤ s.size ∧ (∀ m, i + 2 ≤ m → m < k → letB (bt s m) = true) ∧ x = .int .i64 k) (fun i => s.size - (intOf i).toNat)
  case atStart => exact ⟨i + 2, by omega, by omega, fun m a b => by omega, by go_num⟩
  case round =>
    obtain ⟨k, hik, hk, hall, rfl⟩ := hrel
    have HA : Hid (_) := hall
    clear hall
    by_cases hlt : k < s.size
    · have HB : Hid (_) := bt_in hlt
      go_wp2_with (go_at_call 21; refine (isLetter_any _ _ (byte_bd _).1 (byte_bd _).2).mono ?_; rintro e w' ⟨rfl, rfl⟩)
      · have ht : letB ↑s[k].toNat = true := by assumption
        go_round
        case rel =>
          refine ⟨k + 1, by omega, by omega, ?_, by go_num⟩
          intro m a b
          by_cases hm : m = k
          · subst hm; rw [← HB.out]; exact ht
          · exact HA.out m a (by omega)
        case measure => simp [intOf]; omega
      · have ht : letB ↑s[k].toNat = false := by assumption
        have hq : ((k : Int) == (s.size : Int)) = true ∨ ((s[k].toNat : Int) != 125) = true := by assumption
        go_ret2
        exact ⟨rfl, k, ⟨hik, HA.out, by rw [← HB.out]; exact ht⟩, hk, out_bad (neq_of hlt HB.out hq)⟩
      · have ht : letB ↑s[k].toNat = false := by assumption
        have hq : ((k : Int) == (s.size : Int)) = false ∧ ((s[k].toNat : Int) != 125) = false := by assumption
        go_ret2
        exact ⟨rfl, k, ⟨hik, HA.out, by rw [← HB.out]; exact ht⟩, hk, out_ft (eq_of HB.out hq)⟩
    · go_wp2
      go_ret2
      exact ⟨rfl, k, ⟨hik, HA.out, by rw [bt_out (by omega)]; exact letB0⟩, hk, out_bad (out_ne (by omega))⟩

set_option maxHeartbeats 400000 in
theorem dir_C2 (s : ByteArray) (i : Nat) (w : World) (hs : s.size ≤ maxLen) (h1 : i + 1 < s.size) (hb : ((s[i + 1].toNat : Int) == 33) = false) (hc : ((s[i + 1].toNat : Int) == 123) = false) :
    Calls Try.prog 18 #[.string s, .int .i64 i] w fun e w' => w' = w ∧ ∃ j, Run letB (bt s) (i + 1) j ∧ j ≤ s.size ∧ e = dirOut s false false (i + 1) j := by
  unfold maxLen at hs
  go_enter Try.func18, Try.ntmps18
  go_wp2
  go_loop [6] (fun x => ∃ k : Nat, i + 1 ≤ k ∧ k ≤ s.size ∧ (∀ m, i + 1 ≤ m → m < k → letB (bt s m) = true) ∧ x = .int .i64 k) (fun i => s.size - (intOf i).toNat)
  case atStart => exact ⟨i + 1, by omega, by omega, fun m a b => by omega, by go_num⟩
  case round =>
    obtain ⟨k, hik, hk, hall, rfl⟩ := hrel
    have HA : Hid (_) := hall
    clear hall
    by_cases hlt : k < s.size
    · have HB : Hid (_) := bt_in hlt
      go_wp2_with (go_at_call 21; refine (isLetter_any _ _ (byte_bd _).1 (byte_bd _).2).mono ?_; rintro e w' ⟨rfl, rfl⟩)
      · have ht : letB ↑s[k].toNat = true := by assumption
        go_round
        case rel =>
          refine ⟨k + 1, by omega, by omega, ?_, by go_num⟩
          intro m a b
          by_cases hm : m = k
          · subst hm; rw [← HB.out]; exact ht
          · exact HA.out m a (by omega)
        case measure => simp [intOf]; omega
      · have ht : letB ↑s[k].toNat = false := by assumption
        go_ret2
        exact ⟨rfl, k, ⟨hik, HA.out, by rw [← HB.out]; exact ht⟩, hk, out_ff⟩
    · go_wp2
      go_ret2
      exact ⟨rfl, k, ⟨hik, HA.out, by rw [bt_out (by omega)]; exact letB0⟩, hk, out_ff⟩

def bangB (s : ByteArray) (i : Nat) : Bool := decide (bt s (i + 1) = 33)
def hdOf (s : ByteArray) (i : Nat) : Nat := if bangB s i = true then i + 2 else i + 1
def brcB (s : ByteArray) (i : Nat) : Bool := decide (bt s (hdOf s i) = 123)
def stOf (s : ByteArray) (i : Nat) : Nat := if brcB s i = true then hdOf s i + 1 else hdOf s i

theorem dir_any (s : ByteArray) (i : Nat) (w : World) (hs : s.size ≤ maxLen) (hi : i < s.size) :
    Calls Try.prog 18 #[.string s, .int .i64 i] w fun e w' => w' = w ∧ ∃ j, Run letB (bt s) (stOf s i) j ∧ j ≤ s.size ∧ e = dirOut s (bangB s i) (brcB s i) (stOf s i) j := by
  have key : ∀ (b c : Bool) (st : Nat), bangB s i = b → brcB s i = c → stOf s i = st → (Calls Try.prog 18 #[.string s, .int .i64 i] w fun e w' => w' = w ∧ ∃ j, Run letB (bt s) st j ∧ j ≤ s.size ∧ e = dirOut s b c st j) →
      Calls Try.prog 18 #[.string s, .int .i64 i] w fun e w' => w' = w ∧ ∃ j, Run letB (bt s) (stOf s i) j ∧ j ≤ s.size ∧ e = dirOut s (bangB s i) (brcB s i) (stOf s i) j := by
    intro b c st hb hc hst h; rw [hb, hc, hst]; exact h
  by_cases h1 : i + 1 < s.size
  · have e1 := bt_in h1
    by_cases h2 : bt s (i + 1) = 33
    · have hbang : bangB s i = true := by unfold bangB; simp [h2]
      have hhd : hdOf s i = i + 2 := by unfold hdOf; rw [if_pos hbang]
      by_cases h3 : i + 2 < s.size
      · have e2 := bt_in h3
        by_cases h4 : bt s (i + 2) = 123
        · have hbrc : brcB s i = true := by unfold brcB; rw [hhd]; simp [h4]
          exact key _ _ _ hbang hbrc (by unfold stOf; rw [if_pos hbrc, hhd]) (dir_B2 s i w hs h1 h3 (by rw [e1, h2]; rfl) (by rw [e2, h4]; rfl))
        · have hbrc : brcB s i = false := by unfold brcB; rw [hhd]; simp [h4]
          exact key _ _ _ hbang hbrc (by unfold stOf; rw [hbrc, hhd]; rfl) (dir_B3 s i w hs h1 h3 (by rw [e1, h2]; rfl) (by rw [e2]; simpa using h4))
      · have hbrc : brcB s i = false := by unfold brcB; rw [hhd, bt_out (by omega)]; rfl
        exact key _ _ _ hbang hbrc (by unfold stOf; rw [hbrc, hhd]; rfl) (dir_B1 s i w hs h1 (by omega) (by rw [e1, h2]; rfl))
    · have hbang : bangB s i = false := by unfold bangB; simp [h2]
      have hhd : hdOf s i = i + 1 := by unfold hdOf; rw [hbang]; rfl
      by_cases h4 : bt s (i + 1) = 123
      · have hbrc : brcB s i = true := by unfold brcB; rw [hhd]; simp [h4]
        exact key _ _ _ hbang hbrc (by unfold stOf; rw [if_pos hbrc, hhd]) (dir_C1 s i w hs h1 (by rw [e1]; simpa using h2) (by rw [e1, h4]; rfl))
      · have hbrc : brcB s i = false := by unfold brcB; rw [hhd]; simp [h4]
        exact key _ _ _ hbang hbrc (by unfold stOf; rw [hbrc, hhd]; rfl) (dir_C2 s i w hs h1 (by rw [e1]; simpa using h2) (by rw [e1]; simpa using h4))
  · have hbang : bangB s i = false := by unfold bangB; rw [bt_out (by omega)]; rfl
    have hhd : hdOf s i = i + 1 := by unfold hdOf; rw [hbang]; rfl
    have hbrc : brcB s i = false := by unfold brcB; rw [hhd, bt_out (by omega)]; rfl
    exact key _ _ _ hbang hbrc (by unfold stOf; rw [hbrc, hhd]; rfl) (dir_A s i w hs (by omega))

set_option maxHeartbeats 400000 in
theorem zzdir_any (s : ByteArray) (i : Nat) (w : World) (hs : s.size ≤ maxLen) (hi : i < s.size) :
    Calls Try.prog 8 #[.string s, .int .i64 i] w fun e w' => w' = w ∧ ∃ j, Run letB (bt s) (stOf s i) j ∧ j ≤ s.size ∧ e = dirOut s (bangB s i) (brcB s i) (stOf s i) j := by
  go_enter Try.func8, Try.ntmps8
  go_wp2_with (go_at_call 18; refine (dir_any _ _ _ hs hi).mono ?_)
  rintro e w' ⟨rfl, j, hj, hjs, rfl⟩
  unfold dirOut
  go_wp2
  go_ret2
  exact ⟨rfl, j, hj, hjs, rfl⟩

end Go.Proofs.Qxb6605398a
