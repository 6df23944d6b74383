import Derived.Test.Qxb6605398aFlo
namespace Go.Proofs.Qxb6605398a
open Go.RowKit

/-- How many of the first k bytes are of the kind p. -/
def cnt (p : Int → Bool) (f : Nat → Int) : Nat → Nat
  | 0 => 0
  | k + 1 => cnt p f k + (if p (f k) = true then 1 else 0)
def ptB (c : Int) : Bool := decide (c = 46)

theorem cnt_all {p : Int → Bool} {f : Nat → Int} {a b : Nat} (hab : a ≤ b) (h : ∀ m, a ≤ m → m < b → p (f m) = true) : cnt p f b = cnt p f a + (b - a) := by
  induction b with
  | zero => have : a = 0 := by omega
            subst this; rfl
  | succ b ih =>
    by_cases e : a = b + 1
    · subst e; omega
    · have := ih (by omega) (fun m h1 h2 => h m h1 (by omega))
      simp only [cnt]
      rw [this, if_pos (h b (by omega) (by omega))]; omega
theorem cnt_none {p : Int → Bool} {f : Nat → Int} {a b : Nat} (hab : a ≤ b) (h : ∀ m, a ≤ m → m < b → p (f m) = false) : cnt p f b = cnt p f a := by
  induction b with
  | zero => have : a = 0 := by omega
            subst this; rfl
  | succ b ih =>
    by_cases e : a = b + 1
    · subst e; rfl
    · have := ih (by omega) (fun m h1 h2 => h m h1 (by omega))
      simp only [cnt]
      rw [this, h b (by omega) (by omega)]; rfl
theorem cnt_mono {p : Int → Bool} {f : Nat → Int} {a b : Nat} (hab : a ≤ b) : cnt p f a ≤ cnt p f b := by
  induction b with
  | zero => have : a = 0 := by omega
            subst this; exact Nat.le_refl _
  | succ b ih =>
    by_cases e : a = b + 1
    · subst e; exact Nat.le_refl _
    · have := ih (by omega)
      simp only [cnt]; omega
theorem cnt_le {p : Int → Bool} {f : Nat → Int} {k : Nat} : cnt p f k ≤ k := by
  induction k with
  | zero => exact Nat.le_refl _
  | succ k ih =>
    simp only [cnt]
    split <;> omega
theorem cnt_yes {p : Int → Bool} {f : Nat → Int} {k : Nat} (h : p (f k) = true) : cnt p f (k + 1) = cnt p f k + 1 := by
  simp only [cnt]; rw [if_pos h]
theorem cnt_no {p : Int → Bool} {f : Nat → Int} {k : Nat} (h : p (f k) = false) : cnt p f (k + 1) = cnt p f k := by
  simp only [cnt]; rw [h]; rfl

def SplitAt (s : ByteArray) (k : Nat) : Prop := k ≤ s.size ∧ (∀ m, m < k → ¬ isE (bt s m)) ∧ (isE (bt s k) ∨ k = s.size)
def ExpOk (s : ByteArray) (k : Nat) : Prop :=
  k = s.size ∨ ∃ p, ((isSg (bt s (k + 1)) ∧ p = k + 2) ∨ (¬ isSg (bt s (k + 1)) ∧ p = k + 1)) ∧ p < s.size ∧ ∀ m, p ≤ m → m < s.size → digB (bt s m) = true
def MantOk (f : Nat → Int) (k : Nat) : Prop := (∀ m, m < k → ptB (f m) = true ∨ digB (f m) = true) ∧ cnt ptB f k ≤ 1 ∧ 1 ≤ cnt digB f k

theorem isE_lt {s : ByteArray} {m : Nat} (h : isE (bt s m)) : m < s.size := by
  apply Classical.byContradiction
  intro hn
  rw [bt_out (by omega)] at h
  exact not_e0 h
theorem dig_nopt {v : Int} (h : digB v = true) : ptB v = false := by
  unfold digB at h; unfold ptB; simp at h; simp; omega
theorem pt_nodig {v : Int} (h : ptB v = true) : digB v = false := by
  unfold ptB at h; unfold digB; simp at h; simp; omega
theorem dig_noe {v : Int} (h : digB v = true) : ¬ isE v := by
  unfold digB at h; unfold isE; simp at h; omega
theorem pt_noe {v : Int} (h : ptB v = true) : ¬ isE v := by
  unfold ptB at h; unfold isE; simp at h; omega

/-- The mantissa that isFloatText reads, counted. -/
theorem mant_counts {s : ByteArray} {m : Nat} (h : MantR s m) :
    (∀ k, k < m → ptB (bt s k) = true ∨ digB (bt s k) = true) ∧ cnt ptB (bt s) m ≤ 1 ∧ 1 ≤ cnt digB (bt s) m ∧ digB (bt s m) = false ∧ (ptB (bt s m) = true → cnt ptB (bt s) m = 1) := by
  obtain ⟨i, hi, hc⟩ := h
  have c1 : cnt ptB (bt s) i = 0 := by
    have := cnt_none (p := ptB) (f := bt s) (Nat.zero_le i) (fun m h1 h2 => dig_nopt (hi.2.1 m h1 h2)); rw [this]; rfl
  have c2 : cnt digB (bt s) i = i := by
    have := cnt_all (p := digB) (f := bt s) (Nat.zero_le i) hi.2.1; rw [this]; simp [cnt]
  rcases hc with ⟨h46, hr, hne⟩ | ⟨h46, h0, rfl⟩
  · have hp : ptB (bt s i) = true := by unfold ptB; simp [h46]
    have d1 := cnt_yes (p := ptB) (f := bt s) (k := i) hp
    have d2 := cnt_no (p := digB) (f := bt s) (k := i) (pt_nodig hp)
    have e1 := cnt_none (p := ptB) (f := bt s) hr.1 (fun m h1 h2 => dig_nopt (hr.2.1 m h1 h2))
    have e2 := cnt_all (p := digB) (f := bt s) hr.1 hr.2.1
    have hle := hr.1
    refine ⟨?_, by omega, by omega, hr.2.2, fun _ => by omega⟩
    intro k hk
    rcases Nat.lt_trichotomy k i with h | h | h
    · exact Or.inr (hi.2.1 k (Nat.zero_le _) h)
    · subst h; exact Or.inl hp
    · exact Or.inr (hr.2.1 k (by omega) hk)
  · refine ⟨fun k hk => Or.inr (hi.2.1 k (Nat.zero_le _) hk), by omega, by omega, hi.2.2, ?_⟩
    intro hp
    unfold ptB at hp; simp at hp
    exact absurd hp h46

/-- THE PLAIN LAW: what isFloatText answers is what the split-and-count model answers. -/
theorem float_law {s : ByteArray} {b : Bool} {k : Nat} (hf : FlR s b) (hk : SplitAt s k) : b = true ↔ (ExpOk s k ∧ MantOk (bt s) k) := by
  obtain ⟨k1, k2, k3⟩ := hk
  rcases hf with ⟨hn, rfl⟩ | ⟨m, hm, hM, ht⟩
  · constructor
    · intro h; cases h
    · rintro ⟨_, m1, m2, m3⟩
      exfalso
      have hk0 : k ≠ 0 := by intro h; subst h; simp [cnt] at m3
      rcases hn with ⟨a, c⟩ | ⟨a, c⟩
      · have hp : ptB (bt s 0) = true := by unfold ptB; simp [a]
        have d1 := cnt_yes (p := ptB) (f := bt s) (k := 0) hp
        have d2 := cnt_no (p := digB) (f := bt s) (k := 0) (pt_nodig hp)
        rw [Nat.zero_add] at d1 d2
        have z1 : cnt ptB (bt s) 0 = 0 := rfl
        have z2 : cnt digB (bt s) 0 = 0 := rfl
        have hk1 : k ≠ 1 := by intro h; subst h; omega
        rcases m1 1 (by omega) with h | h
        · have d3 := cnt_yes (p := ptB) (f := bt s) (k := 1) h
          have := cnt_mono (p := ptB) (f := bt s) (show 1 + 1 ≤ k by omega)
          omega
        · rw [c] at h; cases h
      · rcases m1 0 (by omega) with h | h
        · unfold ptB at h; simp at h; exact a h
        · rw [c] at h; cases h
  · obtain ⟨q1, q2, q3, q4, q5⟩ := mant_counts hM
    have hkm : m ≤ k := by
      apply Classical.byContradiction
      intro hlt
      rcases k3 with h | h
      · rcases q1 k (by omega) with g | g
        · exact pt_noe g h
        · exact dig_noe g h
      · omega
    rcases ht with ⟨he, p, j, hp, hr, rfl⟩ | ⟨he, rfl⟩
    · have hms := isE_lt he
      have ekm : k = m := by
        apply Classical.byContradiction
        intro hne
        exact k2 m (by omega) he
      subst ekm
      have hmo : MantOk (bt s) k := ⟨q1, q2, q3⟩
      rw [decide_eq_true_iff]
      constructor
      · rintro ⟨j1, j2⟩
        subst j2
        refine ⟨Or.inr ⟨p, hp, ?_, hr.2.1⟩, hmo⟩
        have := hr.1
        omega
      · rintro ⟨hx, _⟩
        rcases hx with h | ⟨p', hp', hlt, hall⟩
        · omega
        · have epp : p' = p := by
            rcases hp with ⟨a, rfl⟩ | ⟨a, rfl⟩
            · rcases hp' with ⟨_, rfl⟩ | ⟨c, _⟩
              · rfl
              · exact absurd a c
            · rcases hp' with ⟨c, _⟩ | ⟨_, rfl⟩
              · exact absurd c a
              · rfl
          subst epp
          have r : Run digB (bt s) p' s.size := ⟨by omega, hall, by rw [bt_out (Nat.le_refl _)]; exact digB0⟩
          have := hr.uniq r
          omega
    · rw [decide_eq_true_iff]
      constructor
      · intro h
        subst h
        have ek : k = s.size := by omega
        subst ek
        exact ⟨Or.inl rfl, q1, q2, q3⟩
      · rintro ⟨_, m1, m2, m3⟩
        apply Classical.byContradiction
        intro hne
        have hlt : m < k := by
          apply Classical.byContradiction
          intro hnl
          have : k = m := by omega
          subst this
          rcases k3 with h | h
          · exact he h
          · exact hne h
        rcases m1 m hlt with h | h
        · have d := cnt_yes (p := ptB) (f := bt s) (k := m) h
          have e := q5 h
          have := cnt_mono (p := ptB) (f := bt s) (show m + 1 ≤ k by omega)
          omega
        · rw [q4] at h; cases h

end Go.Proofs.Qxb6605398a
