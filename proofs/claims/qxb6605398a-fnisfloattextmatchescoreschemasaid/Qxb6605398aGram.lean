import Derived.Test.Qxb6605398aReads
namespace Go.Proofs.Qxb6605398a
open Go.RowKit

theorem run_exists (p : Int → Bool) (hp : p 0 = false) (s : ByteArray) (i : Nat) (hi : i ≤ s.size) : ∃ j, j ≤ s.size ∧ Run p (bt s) i j := by
  have key : ∀ n i, i + n = s.size → ∃ j, j ≤ s.size ∧ Run p (bt s) i j := by
    intro n
    induction n with
    | zero => intro i h; exact ⟨i, by omega, Nat.le_refl _, fun k a b => by omega, by rw [bt_out (by omega)]; exact hp⟩
    | succ n ih =>
      intro i h
      cases hc : p (bt s i) with
      | false => exact ⟨i, by omega, Nat.le_refl _, fun k a b => by omega, hc⟩
      | true =>
        obtain ⟨j, hj, h1, h2, h3⟩ := ih (i + 1) (by omega)
        refine ⟨j, hj, by omega, ?_, h3⟩
        intro k a b
        by_cases e : k = i
        · subst e; exact hc
        · exact h2 k (by omega) b
  exact key (s.size - i) i (by omega)

theorem idx_exists (s : ByteArray) (c : Int) (i : Nat) : (∀ m, i ≤ m → m < s.size → bt s m ≠ c) ∨ ∃ k, i ≤ k ∧ k < s.size ∧ bt s k = c ∧ ∀ m, i ≤ m → m < k → bt s m ≠ c := by
  have key : ∀ n i, i + n = s.size → ((∀ m, i ≤ m → m < s.size → bt s m ≠ c) ∨ ∃ k, i ≤ k ∧ k < s.size ∧ bt s k = c ∧ ∀ m, i ≤ m → m < k → bt s m ≠ c) := by
    intro n
    induction n with
    | zero => intro i h; exact Or.inl fun m a b => by omega
    | succ n ih =>
      intro i h
      by_cases hc : bt s i = c
      · exact Or.inr ⟨i, Nat.le_refl _, by omega, hc, fun m a b => by omega⟩
      · rcases ih (i + 1) (by omega) with h1 | ⟨k, h1, h2, h3, h4⟩
        · left
          intro m a b
          by_cases e : m = i
          · subst e; exact hc
          · exact h1 m (by omega) b
        · right
          refine ⟨k, by omega, h2, h3, ?_⟩
          intro m a b
          by_cases e : m = i
          · subst e; exact hc
          · exact h4 m (by omega) b
  by_cases hi : i ≤ s.size
  · exact key (s.size - i) i (by omega)
  · exact Or.inl fun m a b => by omega

theorem index_none (s : ByteArray) (x : Int) (i : Nat) (c : Int) (w : World) (hs : s.size ≤ maxLen) (hx : x = i)
    (h : ∀ m, i ≤ m → m < s.size → bt s m ≠ c) :
    Calls Try.prog 9 #[.string s, .int .i64 x, .int .u8 c] w fun e w' => e = .returned (.int .i64 (-1)) ∧ w' = w := by
  subst hx
  refine (indexFrom_any s i c w hs).mono ?_
  rintro e w' ⟨rfl, ⟨rfl, _⟩ | ⟨k, rfl, h1, h2, h3, _⟩⟩
  · exact ⟨rfl, rfl⟩
  · exact absurd h3 (h k h1 h2)

theorem index_at (s : ByteArray) (x : Int) (i : Nat) (c : Int) (k : Nat) (w : World) (hs : s.size ≤ maxLen) (hx : x = i)
    (h1 : i ≤ k) (h2 : k < s.size) (h3 : bt s k = c) (h4 : ∀ m, i ≤ m → m < k → bt s m ≠ c) :
    Calls Try.prog 9 #[.string s, .int .i64 x, .int .u8 c] w fun e w' => e = .returned (.int .i64 k) ∧ w' = w := by
  subst hx
  refine (indexFrom_any s i c w hs).mono ?_
  rintro e w' ⟨rfl, ⟨rfl, h⟩ | ⟨k', rfl, g1, g2, g3, g4⟩⟩
  · exact absurd h3 (h k h1 h2)
  · rcases Nat.lt_trichotomy k k' with a | a | a
    · exact absurd h3 (g4 k h1 a)
    · subst a; exact ⟨rfl, rfl⟩
    · exact absurd g3 (h4 k' g1 a)

theorem bt_extract (s : ByteArray) (a b k : Nat) (hb : b ≤ s.size) (hk : a + k < b) : bt (s.extract a b) k = bt s (a + k) := by
  unfold bt
  rw [dif_pos (by rw [ByteArray.size_extract]; omega), dif_pos (by omega), ByteArray.getElem_extract]

theorem allB_extract {p : Int → Bool} {s : ByteArray} {a b : Nat} (hb : b ≤ s.size) : allB p (s.extract a b) = true ↔ ∀ m, a ≤ m → m < b → p (bt s m) = true := by
  rw [allB_true]
  constructor
  · intro h m h1 h2
    have := h (m - a) (by rw [ByteArray.size_extract]; omega)
    rw [bt_extract s a b _ hb (by omega), show a + (m - a) = m from by omega] at this
    exact this
  · intro h k hk
    rw [ByteArray.size_extract] at hk
    rw [bt_extract s a b _ hb (by omega)]
    exact h _ (by omega) (by omega)

set_option maxHeartbeats 400000 in
theorem bytes7_any (a0 : ByteArray) (a1 : Int) (w : World) (w0 : a0.size ≤ maxLen) :
    Calls Try.prog 7 #[.string a0, .int .i64 a1] w fun e w' => e = .returned (.bool (decide (a0.size ≤ 1048576))) ∧ w' = w := by
  unfold maxLen at w0
  go_enter Try.func7, Try.ntmps7
  go_wp2
  all_goals
    go_ret
    refine ⟨ret_bool ?_, rfl⟩
    rw [eq_comm]
    simp
    omega

end Go.Proofs.Qxb6605398a
