import Derived.Test.Qxb6605398aFlo
import Derived.Test.Qxb6605398aReads
namespace Go.Proofs.Qxb6605398a
open Go.RowKit

theorem bt_left {x y : ByteArray} {k : Nat} (h : k < x.size) : bt (x ++ y) k = bt x k := by rw [bt_append, if_pos h]
theorem bt_right {x y : ByteArray} {k : Nat} : bt (x ++ y) (x.size + k) = bt y k := by
  rw [bt_append, if_neg (by omega), show x.size + k - x.size = k from by omega]

/-- The mantissa is plain digits, W of them. -/
theorem mant_plain {s : ByteArray} {W : Nat} {b : Bool} (h : Run digB (bt s) 0 W) (h46 : bt s W ≠ 46) (hf : FlR s b) :
    (W = 0 ∧ b = false) ∨ (W ≠ 0 ∧ TailR s W b) := by
  rcases hf with ⟨hn, rfl⟩ | ⟨m, hm, ⟨i, hi, hc⟩, ht⟩
  · left
    refine ⟨?_, rfl⟩
    apply Classical.byContradiction
    intro h0
    have h00 := h.2.1 0 (Nat.le_refl _) (by omega)
    rcases hn with ⟨a, _⟩ | ⟨_, a⟩
    · rw [a] at h00; exact absurd h00 (by decide)
    · rw [a] at h00; cases h00
  · have e := hi.uniq h
    subst e
    rcases hc with ⟨a, _⟩ | ⟨_, a, rfl⟩
    · exact absurd a h46
    · exact Or.inr ⟨a, ht⟩

/-- The mantissa has a point behind W digits; its fraction ends at M. -/
theorem mant_point {s : ByteArray} {W M : Nat} {b : Bool} (h : Run digB (bt s) 0 W) (h46 : bt s W = 46) (hM : Run digB (bt s) (W + 1) M) (hf : FlR s b) :
    (W = 0 ∧ M = 1 ∧ b = false) ∨ (¬ (W = 0 ∧ M = 1) ∧ TailR s M b) := by
  rcases hf with ⟨hn, rfl⟩ | ⟨m, hm, ⟨i, hi, hc⟩, ht⟩
  · left
    have h0 : W = 0 := by
      apply Classical.byContradiction
      intro h0
      have h00 := h.2.1 0 (Nat.le_refl _) (by omega)
      rcases hn with ⟨a, _⟩ | ⟨_, a⟩
      · rw [a] at h00; exact absurd h00 (by decide)
      · rw [a] at h00; cases h00
    subst h0
    rcases hn with ⟨_, a⟩ | ⟨a, _⟩
    · have r : Run digB (bt s) (0 + 1) 1 := ⟨by omega, fun k a b => by omega, a⟩
      exact ⟨rfl, hM.uniq r, rfl⟩
    · exact absurd h46 a
  · have e := hi.uniq h
    subst e
    rcases hc with ⟨_, a, c⟩ | ⟨a, _⟩
    · have e := a.uniq hM
      subst e
      exact Or.inr ⟨c, ht⟩
    · exact absurd h46 a

theorem tail_end {s : ByteArray} {b : Bool} (h : TailR s s.size b) : b = true := by
  rcases h with ⟨a, _⟩ | ⟨_, a⟩
  · rw [bt_out (Nat.le_refl _)] at a; exact absurd a not_e0
  · simpa using a

theorem tail_exp {s : ByteArray} {M p : Nat} {b : Bool} (he : isE (bt s M)) (hp : (isSg (bt s (M + 1)) ∧ p = M + 2) ∨ (¬ isSg (bt s (M + 1)) ∧ p = M + 1))
    (hr : Run digB (bt s) p s.size) (h : TailR s M b) : b = decide (p ≠ s.size) := by
  rcases h with ⟨_, p', j, hp', hr', hb⟩ | ⟨a, _⟩
  · have : p' = p := by
      rcases hp with ⟨a, rfl⟩ | ⟨a, rfl⟩
      · rcases hp' with ⟨_, rfl⟩ | ⟨c, _⟩
        · rfl
        · exact absurd a c
      · rcases hp' with ⟨c, _⟩ | ⟨_, rfl⟩
        · exact absurd c a
        · rfl
    subst this
    rw [hr'.uniq hr] at hb
    rw [hb, Bool.eq_iff_iff]; simp; omega
  · exact absurd he a

def wantB (W F D : Nat) (point exp : Bool) : Bool := decide ((0 < W ∨ (point = true ∧ 0 < F)) ∧ (exp = false ∨ 0 < D))
def isSign (x : ByteArray) : Prop := x = ⟨#[]⟩ ∨ x = ⟨#[43]⟩ ∨ x = ⟨#[45]⟩

/-- What stands behind the mantissa in a text with an exponent: the exponent's digits decide. -/
theorem exp_of {X sg dg : ByteArray} {c : UInt8} {b : Bool} (hc : isE (c.toNat : Int)) (hs : isSign sg) (hd : allB digB dg = true)
    (h : TailR (X ++ ⟨#[c]⟩ ++ (sg ++ dg)) X.size b) : b = decide (0 < dg.size) := by
  rw [allB_true] at hd
  generalize hS : (X ++ ⟨#[c]⟩ ++ (sg ++ dg) : ByteArray) = s at h
  have hsz : s.size = X.size + 1 + sg.size + dg.size := by rw [← hS]; simp only [ByteArray.size_append, size_one]; omega
  have hb0 : bt s X.size = (c.toNat : Int) := by
    rw [← hS]; simp only [bt_append, bt_one, ByteArray.size_append, size_one]; repeat (first | rw [if_pos (by omega)] | rw [if_neg (by omega)])
  have hb1 : ∀ k, bt s (X.size + 1 + k) = bt (sg ++ dg) k := by
    intro k
    rw [← hS, show X.size + 1 + k = (X ++ ⟨#[c]⟩ : ByteArray).size + k from by rw [ByteArray.size_append, size_one], bt_right]
  have hb2 : ∀ k, bt s (X.size + 1 + sg.size + k) = bt dg k := by
    intro k
    rw [Nat.add_assoc, hb1, bt_right]
  have hr : Run digB (bt s) (X.size + 1 + sg.size) s.size := by
    refine ⟨by omega, ?_, by rw [bt_out (Nat.le_refl _)]; exact digB0⟩
    intro k h1 h2
    obtain ⟨m, rfl⟩ : ∃ m, k = X.size + 1 + sg.size + m := ⟨k - (X.size + 1 + sg.size), by omega⟩
    rw [hb2]; exact hd m (by omega)
  have nosg : ∀ v : Int, digB v = true → ¬ isSg v := by
    intro v hv; unfold digB at hv; unfold isSg; simp at hv; omega
  have hp : (isSg (bt s (X.size + 1)) ∧ X.size + 1 + sg.size = X.size + 2) ∨ (¬ isSg (bt s (X.size + 1)) ∧ X.size + 1 + sg.size = X.size + 1) := by
    have e := hb1 0
    rw [Nat.add_zero] at e
    rw [e]
    rcases hs with rfl | rfl | rfl
    · right
      refine ⟨?_, rfl⟩
      have e2 : bt ((⟨#[]⟩ : ByteArray) ++ dg) 0 = bt dg 0 := bt_right (x := (⟨#[]⟩ : ByteArray)) (k := 0)
      rw [e2]
      by_cases h0 : 0 < dg.size
      · exact nosg _ (hd 0 h0)
      · rw [bt_out (by omega)]; exact not_sg0
    · left
      exact ⟨by rw [bt_left (by decide)]; exact Or.inl rfl, rfl⟩
    · left
      exact ⟨by rw [bt_left (by decide)]; exact Or.inr rfl, rfl⟩
  have hb := tail_exp (p := X.size + 1 + sg.size) (by rw [hb0]; exact hc) hp hr h
  rw [hb, Bool.eq_iff_iff]; simp; omega

theorem nodig_e {v : Int} (h : isE v) : digB v = false ∧ v ≠ 46 := by
  unfold isE at h; unfold digB; constructor
  · simp; omega
  · omega

/-- The digits of the whole part, with what follows. -/
theorem run_whole {x y : ByteArray} (hd : allB digB x = true) (hy : digB (bt y 0) = false) : Run digB (bt (x ++ y)) 0 x.size := by
  rw [allB_true] at hd
  refine ⟨Nat.zero_le _, ?_, ?_⟩
  · intro k _ h; rw [bt_left h]; exact hd k h
  · have := bt_right (x := x) (y := y) (k := 0); rw [Nat.add_zero] at this; rw [this]; exact hy
theorem run_frac {x z y : ByteArray} {c : UInt8} (hd : allB digB z = true) (hy : digB (bt y 0) = false) : Run digB (bt (x ++ (⟨#[c]⟩ ++ z) ++ y)) (x.size + 1) (x.size + 1 + z.size) := by
  rw [allB_true] at hd
  have key : ∀ k, bt (x ++ (⟨#[c]⟩ ++ z) ++ y) (x.size + 1 + k) = bt (z ++ y) k := by
    intro k
    rw [show (x ++ (⟨#[c]⟩ ++ z) ++ y : ByteArray) = x ++ ⟨#[c]⟩ ++ (z ++ y) from by simp only [ByteArray.append_assoc],
      show x.size + 1 + k = (x ++ ⟨#[c]⟩ : ByteArray).size + k from by rw [ByteArray.size_append, size_one], bt_right]
  refine ⟨by omega, ?_, ?_⟩
  · intro k h1 h2
    obtain ⟨m, rfl⟩ : ∃ m, k = x.size + 1 + m := ⟨k - (x.size + 1), by omega⟩
    rw [key, bt_left (by omega)]; exact hd m (by omega)
  · rw [key]
    have := bt_right (x := z) (y := y) (k := 0); rw [Nat.add_zero] at this; rw [this]; exact hy

/-- The four shapes of a text built of parts. -/
theorem parts_ff {a : ByteArray} {F D : Nat} {b : Bool} (ha : allB digB a = true) (h : FlR a b) : b = wantB a.size F D false false := by
  have e : (a ++ ByteArray.empty : ByteArray) = a := ByteArray.append_empty
  have r : Run digB (bt a) 0 a.size := by
    have := run_whole (y := ByteArray.empty) ha (by rw [bt_out (by simp)]; exact digB0); rwa [e] at this
  rcases mant_plain r (by rw [bt_out (Nat.le_refl _)]; decide) h with ⟨h0, rfl⟩ | ⟨h0, t⟩
  · simp [wantB, h0]
  · rw [tail_end t]; unfold wantB; symm; rw [decide_eq_true_iff]; exact ⟨by omega, Or.inl rfl⟩

theorem parts_tf {a f : ByteArray} {D : Nat} {b : Bool} (ha : allB digB a = true) (hf : allB digB f = true) (h : FlR (a ++ (⟨#[46]⟩ ++ f)) b) : b = wantB a.size f.size D true false := by
  have e : (a ++ (⟨#[46]⟩ ++ f) ++ ByteArray.empty : ByteArray) = a ++ (⟨#[46]⟩ ++ f) := ByteArray.append_empty
  have r2 : Run digB (bt (a ++ (⟨#[46]⟩ ++ f))) (a.size + 1) (a.size + 1 + f.size) := by
    have := run_frac (x := a) (c := 46) (y := ByteArray.empty) hf (by rw [bt_out (by simp)]; exact digB0); rwa [e] at this
  have hsz : (a ++ (⟨#[46]⟩ ++ f) : ByteArray).size = a.size + 1 + f.size := by simp only [ByteArray.size_append, size_one]; omega
  have h46 : bt (a ++ (⟨#[46]⟩ ++ f)) a.size = 46 := by
    have := bt_right (x := a) (y := (⟨#[46]⟩ ++ f)) (k := 0); rw [Nat.add_zero] at this; rw [this, bt_left (by decide)]; rfl
  have r1 : Run digB (bt (a ++ (⟨#[46]⟩ ++ f))) 0 a.size := run_whole ha (by rw [bt_left (by decide)]; decide)
  rcases mant_point r1 h46 r2 h with ⟨h0, h1, rfl⟩ | ⟨h0, t⟩
  · unfold wantB; symm; rw [decide_eq_false_iff_not]; rintro ⟨h | ⟨_, h⟩, _⟩ <;> omega
  · rw [← hsz] at t; rw [tail_end t]; unfold wantB; symm; rw [decide_eq_true_iff]; refine ⟨?_, Or.inl rfl⟩
    by_cases ha0 : 0 < a.size
    · exact Or.inl ha0
    · exact Or.inr ⟨rfl, by omega⟩

theorem parts_ft {a sg dg : ByteArray} {c : UInt8} {F : Nat} {b : Bool} (ha : allB digB a = true) (hc : isE (c.toNat : Int)) (hs : isSign sg) (hd : allB digB dg = true)
    (h : FlR (a ++ ⟨#[c]⟩ ++ (sg ++ dg)) b) : b = wantB a.size F dg.size false true := by
  have hE := nodig_e hc
  have e0 : bt (⟨#[c]⟩ ++ (sg ++ dg)) 0 = (c.toNat : Int) := by rw [bt_left (by rw [size_one]; omega)]; rfl
  have r1 : Run digB (bt (a ++ ⟨#[c]⟩ ++ (sg ++ dg))) 0 a.size := by
    rw [ByteArray.append_assoc]; exact run_whole ha (by rw [e0]; exact hE.1)
  have h46 : bt (a ++ ⟨#[c]⟩ ++ (sg ++ dg)) a.size ≠ 46 := by
    rw [ByteArray.append_assoc]
    have := bt_right (x := a) (y := ⟨#[c]⟩ ++ (sg ++ dg)) (k := 0); rw [Nat.add_zero] at this; rw [this, e0]; exact hE.2
  rcases mant_plain r1 h46 h with ⟨h0, rfl⟩ | ⟨h0, t⟩
  · simp [wantB, h0]
  · rw [exp_of hc hs hd t, Bool.eq_iff_iff]; simp [wantB]; omega

theorem parts_tt {a f sg dg : ByteArray} {c : UInt8} {b : Bool} (ha : allB digB a = true) (hf : allB digB f = true) (hc : isE (c.toNat : Int)) (hs : isSign sg) (hd : allB digB dg = true)
    (h : FlR (a ++ (⟨#[46]⟩ ++ f) ++ ⟨#[c]⟩ ++ (sg ++ dg)) b) : b = wantB a.size f.size dg.size true true := by
  have hE := nodig_e hc
  have e0 : bt (⟨#[c]⟩ ++ (sg ++ dg)) 0 = (c.toNat : Int) := by rw [bt_left (by rw [size_one]; omega)]; rfl
  have hsz : (a ++ (⟨#[46]⟩ ++ f) : ByteArray).size = a.size + 1 + f.size := by simp only [ByteArray.size_append, size_one]; omega
  have r2 : Run digB (bt (a ++ (⟨#[46]⟩ ++ f) ++ ⟨#[c]⟩ ++ (sg ++ dg))) (a.size + 1) (a.size + 1 + f.size) := by
    rw [ByteArray.append_assoc]; exact run_frac hf (by rw [e0]; exact hE.1)
  have asq : (a ++ (⟨#[46]⟩ ++ f) ++ ⟨#[c]⟩ ++ (sg ++ dg) : ByteArray) = a ++ ((⟨#[46]⟩ ++ f) ++ (⟨#[c]⟩ ++ (sg ++ dg))) := by simp only [ByteArray.append_assoc]
  have h46 : bt (a ++ (⟨#[46]⟩ ++ f) ++ ⟨#[c]⟩ ++ (sg ++ dg)) a.size = 46 := by
    rw [asq]
    have := bt_right (x := a) (y := (⟨#[46]⟩ ++ f) ++ (⟨#[c]⟩ ++ (sg ++ dg))) (k := 0); rw [Nat.add_zero] at this
    rw [this, ByteArray.append_assoc, bt_left (by decide)]; rfl
  have r1 : Run digB (bt (a ++ (⟨#[46]⟩ ++ f) ++ ⟨#[c]⟩ ++ (sg ++ dg))) 0 a.size := by
    rw [asq]; exact run_whole ha (by rw [ByteArray.append_assoc, bt_left (by decide)]; decide)
  rcases mant_point r1 h46 r2 h with ⟨h0, h1, rfl⟩ | ⟨h0, t⟩
  · unfold wantB; symm; rw [decide_eq_false_iff_not]; rintro ⟨h | ⟨_, h⟩, _⟩ <;> omega
  · rw [← hsz] at t; rw [exp_of hc hs hd t, Bool.eq_iff_iff]; simp [wantB]; omega

end Go.Proofs.Qxb6605398a
