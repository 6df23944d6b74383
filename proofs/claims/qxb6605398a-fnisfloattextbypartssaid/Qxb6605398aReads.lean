import Derived.Test.Qxb6605398aDir
namespace Go.Proofs.Qxb6605398a
open Go.RowKit

theorem bt_append (x y : ByteArray) (k : Nat) : bt (x ++ y) k = if k < x.size then bt x k else bt y (k - x.size) := by
  unfold bt
  by_cases h : k < x.size
  · rw [if_pos h, dif_pos h, dif_pos (by rw [ByteArray.size_append]; omega), ByteArray.getElem_append_left h]
  · rw [if_neg h]
    by_cases h2 : k - x.size < y.size
    · rw [dif_pos h2, dif_pos (by rw [ByteArray.size_append]; omega), ByteArray.getElem_append_right (by omega)]
    · rw [dif_neg h2, dif_neg (by rw [ByteArray.size_append]; omega)]
theorem size_one (c : UInt8) : (⟨#[c]⟩ : ByteArray).size = 1 := rfl
theorem bt_one (c : UInt8) (k : Nat) : bt ⟨#[c]⟩ k = if k = 0 then (c.toNat : Int) else 0 := by
  by_cases h : k = 0
  · subst h; rfl
  · rw [if_neg h, bt_out (by rw [size_one]; omega)]
theorem extract_mid (x y z : ByteArray) (i j : Nat) (hi : i = x.size) (hj : j = x.size + y.size) : (x ++ y ++ z).extract i j = y := by
  rw [ByteArray.extract_append, ByteArray.extract_append_eq_right hi hj]
  have : z.extract (i - (x ++ y).size) (j - (x ++ y).size) = ByteArray.empty := by
    apply ByteArray.ext_getElem
    · rw [ByteArray.size_extract, ByteArray.size_append]; simp; omega
    · intro k h1 h2; simp at h2
  rw [this, ByteArray.append_empty]

/-- directiveAt at a place where all is known of the text. -/
theorem zzdir_reads (s : ByteArray) (p st j : Nat) (bang brc : Bool) (w : World) (hs : s.size ≤ maxLen) (hp : p < s.size)
    (h1 : bangB s p = bang) (h2 : brcB s p = brc) (h3 : stOf s p = st) (hr : Run letB (bt s) st j) :
    Calls Try.prog 8 #[.string s, .int .i64 p] w fun e w' => e = .returned (.tuple #[.string (dirName s bang brc st j), .int .i64 (dirEnd s brc j)]) ∧ w' = w := by
  refine (zzdir_any s p w hs hp).mono ?_
  rintro e w' ⟨rfl, j', hj, hjs, rfl⟩
  rw [h1, h2, h3]
  rw [h3] at hj
  rw [hj.uniq hr]
  exact ⟨rfl, rfl⟩

theorem reads_tt (a0 a1 a2 : ByteArray) (w : World) (hz : a0.size + a1.size + a2.size ≤ 1048576) (hl : allB letB a1 = true) :
    Calls Try.prog 8 #[.string (a0 ++ ⟨#[35]⟩ ++ ⟨#[33]⟩ ++ (⟨#[123]⟩ ++ a1 ++ ⟨#[125]⟩) ++ a2), .int .i64 a0.size] w fun e w' =>
      e = .returned (.tuple #[.string (⟨#[33]⟩ ++ a1), .int .i64 (a0.size + 1 + 1 + (1 + a1.size + 1))]) ∧ w' = w := by
  rw [allB_true] at hl
  generalize hS : (a0 ++ ⟨#[35]⟩ ++ ⟨#[33]⟩ ++ (⟨#[123]⟩ ++ a1 ++ ⟨#[125]⟩) ++ a2 : ByteArray) = s
  have hsz : s.size = a0.size + 4 + a1.size + a2.size := by rw [← hS]; simp only [ByteArray.size_append, size_one]; omega
  have hmid : ∀ k, k < a1.size → bt s (a0.size + 3 + k) = bt a1 k := by
    intro k hk
    rw [← hS]; simp only [bt_append, bt_one, ByteArray.size_append, size_one]; repeat (first | rw [if_pos (by omega)] | rw [if_neg (by omega)])
    congr 1; omega
  have hb3 : bt s (a0.size + 3 + a1.size) = 125 := by
    rw [← hS]; simp only [bt_append, bt_one, ByteArray.size_append, size_one]; repeat (first | rw [if_pos (by omega)] | rw [if_neg (by omega)])
    rfl
  have hex : s.extract (a0.size + 3) (a0.size + 3 + a1.size) = a1 := by
    rw [show s = (a0 ++ ⟨#[35]⟩ ++ ⟨#[33]⟩ ++ ⟨#[123]⟩) ++ a1 ++ (⟨#[125]⟩ ++ a2) from by rw [← hS]; simp only [ByteArray.append_assoc]]
    exact extract_mid _ _ _ _ _ (by simp only [ByteArray.size_append, size_one]) (by simp only [ByteArray.size_append, size_one])
  have hb1 : bt s (a0.size + 1) = 33 := by
    rw [← hS]; simp only [bt_append, bt_one, ByteArray.size_append, size_one]; repeat (first | rw [if_pos (by omega)] | rw [if_neg (by omega)])
    rfl
  have g1 : bangB s a0.size = true := by unfold bangB; simp [hb1]
  have g2 : hdOf s a0.size = a0.size + 2 := by unfold hdOf; rw [if_pos g1]
  have hb2 : bt s (a0.size + 2) = 123 := by
    rw [← hS]; simp only [bt_append, bt_one, ByteArray.size_append, size_one]; repeat (first | rw [if_pos (by omega)] | rw [if_neg (by omega)])
    rfl
  have g3 : brcB s a0.size = true := by unfold brcB; rw [g2]; simp [hb2]
  have g4 : stOf s a0.size = a0.size + 3 := by unfold stOf; rw [if_pos g3, g2]
  have hr : Run letB (bt s) (a0.size + 3) (a0.size + 3 + a1.size) := by
    refine ⟨by omega, ?_, by rw [hb3]; decide⟩
    intro k h1 h2
    obtain ⟨m, rfl⟩ : ∃ m, k = a0.size + 3 + m := ⟨k - (a0.size + 3), by omega⟩
    rw [hmid m (by omega)]; exact hl m (by omega)
  refine (zzdir_reads s a0.size _ _ _ _ w (by unfold maxLen; omega) (by omega) g1 g3 g4 hr).mono ?_
  rintro e w' ⟨rfl, rfl⟩
  refine ⟨?_, rfl⟩
  have e1 : dirName s true true (a0.size + 3) (a0.size + 3 + a1.size) = ⟨#[33]⟩ ++ a1 := by
    unfold dirName; rw [if_neg (by intro a; exact a.2 hb3), if_pos rfl, hex]
  have e2 : dirEnd s true (a0.size + 3 + a1.size) = (a0.size : Int) + 1 + 1 + (1 + a1.size + 1) := by
    unfold dirEnd; rw [if_neg (by intro a; exact a.2 hb3), if_pos rfl]; omega
  rw [e1, e2]

theorem reads_tf (a0 a1 a2 : ByteArray) (w : World) (hz : a0.size + a1.size + a2.size ≤ 1048576) (hl : allB letB a1 = true) (hn1 : letB (bt a2 0) = false) (hn2 : bt a2 0 ≠ 123) :
    Calls Try.prog 8 #[.string (a0 ++ ⟨#[35]⟩ ++ ⟨#[33]⟩ ++ a1 ++ a2), .int .i64 a0.size] w fun e w' =>
      e = .returned (.tuple #[.string (⟨#[33]⟩ ++ a1), .int .i64 (a0.size + 1 + 1 + a1.size)]) ∧ w' = w := by
  rw [allB_true] at hl
  generalize hS : (a0 ++ ⟨#[35]⟩ ++ ⟨#[33]⟩ ++ a1 ++ a2 : ByteArray) = s
  have hsz : s.size = a0.size + 2 + a1.size + a2.size := by rw [← hS]; simp only [ByteArray.size_append, size_one]
  have hmid : ∀ k, k < a1.size → bt s (a0.size + 2 + k) = bt a1 k := by
    intro k hk
    rw [← hS]; simp only [bt_append, bt_one, ByteArray.size_append, size_one]; repeat (first | rw [if_pos (by omega)] | rw [if_neg (by omega)])
    congr 1; omega
  have hb3 : bt s (a0.size + 2 + a1.size) = bt a2 0 := by
    rw [← hS]; simp only [bt_append, bt_one, ByteArray.size_append, size_one]; repeat (first | rw [if_pos (by omega)] | rw [if_neg (by omega)])
    congr 1; omega
  have hb4 : letB (bt s (a0.size + 2)) = true ∨ bt s (a0.size + 2) = bt a2 0 := by
    by_cases he : a1.size = 0
    · right; rw [he] at hb3; exact hb3
    · left; rw [show a0.size + 2 = a0.size + 2 + 0 from rfl, hmid 0 (by omega)]; exact hl 0 (by omega)
  have hb5 : ∀ c : Int, letB c = true → c ≠ 33 ∧ c ≠ 123 := by
    intro c hc; unfold letB at hc; simp at hc; omega
  have hex : s.extract (a0.size + 2) (a0.size + 2 + a1.size) = a1 := by
    rw [show s = (a0 ++ ⟨#[35]⟩ ++ ⟨#[33]⟩) ++ a1 ++ a2 from by rw [← hS]]
    exact extract_mid _ _ _ _ _ (by simp only [ByteArray.size_append, size_one]) (by simp only [ByteArray.size_append, size_one])
  have hb1 : bt s (a0.size + 1) = 33 := by
    rw [← hS]; simp only [bt_append, bt_one, ByteArray.size_append, size_one]; repeat (first | rw [if_pos (by omega)] | rw [if_neg (by omega)])
    rfl
  have g1 : bangB s a0.size = true := by unfold bangB; simp [hb1]
  have g2 : hdOf s a0.size = a0.size + 2 := by unfold hdOf; rw [if_pos g1]
  have hb2 : bt s (a0.size + 2) ≠ 123 := by
    rcases hb4 with h | h
    · exact (hb5 _ h).2
    · rw [h]; exact hn2
  have g3 : brcB s a0.size = false := by unfold brcB; rw [g2]; simp [hb2]
  have g4 : stOf s a0.size = a0.size + 2 := by unfold stOf; rw [g3, g2]; rfl
  have hr : Run letB (bt s) (a0.size + 2) (a0.size + 2 + a1.size) := by
    refine ⟨by omega, ?_, by rw [hb3]; exact hn1⟩
    intro k h1 h2
    obtain ⟨m, rfl⟩ : ∃ m, k = a0.size + 2 + m := ⟨k - (a0.size + 2), by omega⟩
    rw [hmid m (by omega)]; exact hl m (by omega)
  refine (zzdir_reads s a0.size _ _ _ _ w (by unfold maxLen; omega) (by omega) g1 g3 g4 hr).mono ?_
  rintro e w' ⟨rfl, rfl⟩
  refine ⟨?_, rfl⟩
  have e1 : dirName s true false (a0.size + 2) (a0.size + 2 + a1.size) = ⟨#[33]⟩ ++ a1 := by
    unfold dirName; rw [if_neg (by intro a; exact absurd a.1 (by decide)), if_pos rfl, hex]
  have e2 : dirEnd s false (a0.size + 2 + a1.size) = (a0.size : Int) + 1 + 1 + a1.size := by
    unfold dirEnd; rw [if_neg (by intro a; exact absurd a.1 (by decide)), if_neg (by decide)]; omega
  rw [e1, e2]

theorem reads_ft (a0 a1 a2 : ByteArray) (w : World) (hz : a0.size + a1.size + a2.size ≤ 1048576) (hl : allB letB a1 = true) :
    Calls Try.prog 8 #[.string (a0 ++ ⟨#[35]⟩ ++ (⟨#[123]⟩ ++ a1 ++ ⟨#[125]⟩) ++ a2), .int .i64 a0.size] w fun e w' =>
      e = .returned (.tuple #[.string (a1), .int .i64 (a0.size + 1 + (1 + a1.size + 1))]) ∧ w' = w := by
  rw [allB_true] at hl
  generalize hS : (a0 ++ ⟨#[35]⟩ ++ (⟨#[123]⟩ ++ a1 ++ ⟨#[125]⟩) ++ a2 : ByteArray) = s
  have hsz : s.size = a0.size + 3 + a1.size + a2.size := by rw [← hS]; simp only [ByteArray.size_append, size_one]; omega
  have hmid : ∀ k, k < a1.size → bt s (a0.size + 2 + k) = bt a1 k := by
    intro k hk
    rw [← hS]; simp only [bt_append, bt_one, ByteArray.size_append, size_one]; repeat (first | rw [if_pos (by omega)] | rw [if_neg (by omega)])
    congr 1; omega
  have hb3 : bt s (a0.size + 2 + a1.size) = 125 := by
    rw [← hS]; simp only [bt_append, bt_one, ByteArray.size_append, size_one]; repeat (first | rw [if_pos (by omega)] | rw [if_neg (by omega)])
    rfl
  have hex : s.extract (a0.size + 2) (a0.size + 2 + a1.size) = a1 := by
    rw [show s = (a0 ++ ⟨#[35]⟩ ++ ⟨#[123]⟩) ++ a1 ++ (⟨#[125]⟩ ++ a2) from by rw [← hS]; simp only [ByteArray.append_assoc]]
    exact extract_mid _ _ _ _ _ (by simp only [ByteArray.size_append, size_one]) (by simp only [ByteArray.size_append, size_one])
  have hb1 : bt s (a0.size + 1) = 123 := by
    rw [← hS]; simp only [bt_append, bt_one, ByteArray.size_append, size_one]; repeat (first | rw [if_pos (by omega)] | rw [if_neg (by omega)])
    rfl
  have g1 : bangB s a0.size = false := by unfold bangB; simp [hb1]
  have g2 : hdOf s a0.size = a0.size + 1 := by unfold hdOf; rw [g1]; rfl
  have hb2 : bt s (a0.size + 1) = 123 := by
    rw [← hS]; simp only [bt_append, bt_one, ByteArray.size_append, size_one]; repeat (first | rw [if_pos (by omega)] | rw [if_neg (by omega)])
    rfl
  have g3 : brcB s a0.size = true := by unfold brcB; rw [g2]; simp [hb2]
  have g4 : stOf s a0.size = a0.size + 2 := by unfold stOf; rw [if_pos g3, g2]
  have hr : Run letB (bt s) (a0.size + 2) (a0.size + 2 + a1.size) := by
    refine ⟨by omega, ?_, by rw [hb3]; decide⟩
    intro k h1 h2
    obtain ⟨m, rfl⟩ : ∃ m, k = a0.size + 2 + m := ⟨k - (a0.size + 2), by omega⟩
    rw [hmid m (by omega)]; exact hl m (by omega)
  refine (zzdir_reads s a0.size _ _ _ _ w (by unfold maxLen; omega) (by omega) g1 g3 g4 hr).mono ?_
  rintro e w' ⟨rfl, rfl⟩
  refine ⟨?_, rfl⟩
  have e1 : dirName s false true (a0.size + 2) (a0.size + 2 + a1.size) = a1 := by
    unfold dirName; rw [if_neg (by intro a; exact a.2 hb3), if_neg (by decide), hex]
  have e2 : dirEnd s true (a0.size + 2 + a1.size) = (a0.size : Int) + 1 + (1 + a1.size + 1) := by
    unfold dirEnd; rw [if_neg (by intro a; exact a.2 hb3), if_pos rfl]; omega
  rw [e1, e2]

theorem reads_ff (a0 a1 a2 : ByteArray) (w : World) (hz : a0.size + a1.size + a2.size ≤ 1048576) (hl : allB letB a1 = true) (hn1 : letB (bt a2 0) = false) (hn2 : bt a2 0 ≠ 123) (hn3 : bt a2 0 ≠ 33) :
    Calls Try.prog 8 #[.string (a0 ++ ⟨#[35]⟩ ++ a1 ++ a2), .int .i64 a0.size] w fun e w' =>
      e = .returned (.tuple #[.string (a1), .int .i64 (a0.size + 1 + a1.size)]) ∧ w' = w := by
  rw [allB_true] at hl
  generalize hS : (a0 ++ ⟨#[35]⟩ ++ a1 ++ a2 : ByteArray) = s
  have hsz : s.size = a0.size + 1 + a1.size + a2.size := by rw [← hS]; simp only [ByteArray.size_append, size_one]
  have hmid : ∀ k, k < a1.size → bt s (a0.size + 1 + k) = bt a1 k := by
    intro k hk
    rw [← hS]; simp only [bt_append, bt_one, ByteArray.size_append, size_one]; repeat (first | rw [if_pos (by omega)] | rw [if_neg (by omega)])
    congr 1; omega
  have hb3 : bt s (a0.size + 1 + a1.size) = bt a2 0 := by
    rw [← hS]; simp only [bt_append, bt_one, ByteArray.size_append, size_one]; repeat (first | rw [if_pos (by omega)] | rw [if_neg (by omega)])
    congr 1; omega
  have hb4 : letB (bt s (a0.size + 1)) = true ∨ bt s (a0.size + 1) = bt a2 0 := by
    by_cases he : a1.size = 0
    · right; rw [he] at hb3; exact hb3
    · left; rw [show a0.size + 1 = a0.size + 1 + 0 from rfl, hmid 0 (by omega)]; exact hl 0 (by omega)
  have hb5 : ∀ c : Int, letB c = true → c ≠ 33 ∧ c ≠ 123 := by
    intro c hc; unfold letB at hc; simp at hc; omega
  have hex : s.extract (a0.size + 1) (a0.size + 1 + a1.size) = a1 := by
    rw [show s = (a0 ++ ⟨#[35]⟩) ++ a1 ++ a2 from by rw [← hS]]
    exact extract_mid _ _ _ _ _ (by simp only [ByteArray.size_append, size_one]) (by simp only [ByteArray.size_append, size_one])
  have hb1 : bt s (a0.size + 1) ≠ 33 := by
    rcases hb4 with h | h
    · exact (hb5 _ h).1
    · rw [h]; exact hn3
  have g1 : bangB s a0.size = false := by unfold bangB; simp [hb1]
  have g2 : hdOf s a0.size = a0.size + 1 := by unfold hdOf; rw [g1]; rfl
  have hb2 : bt s (a0.size + 1) ≠ 123 := by
    rcases hb4 with h | h
    · exact (hb5 _ h).2
    · rw [h]; exact hn2
  have g3 : brcB s a0.size = false := by unfold brcB; rw [g2]; simp [hb2]
  have g4 : stOf s a0.size = a0.size + 1 := by unfold stOf; rw [g3, g2]; rfl
  have hr : Run letB (bt s) (a0.size + 1) (a0.size + 1 + a1.size) := by
    refine ⟨by omega, ?_, by rw [hb3]; exact hn1⟩
    intro k h1 h2
    obtain ⟨m, rfl⟩ : ∃ m, k = a0.size + 1 + m := ⟨k - (a0.size + 1), by omega⟩
    rw [hmid m (by omega)]; exact hl m (by omega)
  refine (zzdir_reads s a0.size _ _ _ _ w (by unfold maxLen; omega) (by omega) g1 g3 g4 hr).mono ?_
  rintro e w' ⟨rfl, rfl⟩
  refine ⟨?_, rfl⟩
  have e1 : dirName s false false (a0.size + 1) (a0.size + 1 + a1.size) = a1 := by
    unfold dirName; rw [if_neg (by intro a; exact absurd a.1 (by decide)), if_neg (by decide), hex]
  have e2 : dirEnd s false (a0.size + 1 + a1.size) = (a0.size : Int) + 1 + a1.size := by
    unfold dirEnd; rw [if_neg (by intro a; exact absurd a.1 (by decide)), if_neg (by decide)]; omega
  rw [e1, e2]

end Go.Proofs.Qxb6605398a
