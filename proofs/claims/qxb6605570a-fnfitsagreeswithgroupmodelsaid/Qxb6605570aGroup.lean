import Derived.Test.Qxb6605570aFits
namespace Go.Proofs.Qxb6605570a

/-! The group model, plain. -/
def sumZ (Z : Nat → Int) (A : List Nat) : Int := (A.map Z).sum
def topF (S : Nat → Int) (x : Int) (A : List Nat) : Int := A.foldl (fun m j => if m < S j then S j else m) x
def dupB (S : Nat → Int) (x : Int) (A : List Nat) : Bool := A.any fun a => S a == x
def sameB (T : Nat → Int) (x : Int) (A : List Nat) : Bool := A.all fun a => T a == x
def markB (S : Nat → Int) (M : Nat → Bool) (top : Int) (A : List Nat) : Bool := A.all fun a => !(M a && S a != top)

theorem sumZ_snoc (Z : Nat → Int) (A : List Nat) (j : Nat) : sumZ Z (A ++ [j]) = sumZ Z A + Z j := by simp [sumZ]
theorem topF_snoc (S : Nat → Int) (x : Int) (A : List Nat) (j : Nat) : topF S x (A ++ [j]) = if topF S x A < S j then S j else topF S x A := by unfold topF; rw [List.foldl_append]; rfl
theorem dupB_snoc (S : Nat → Int) (x : Int) (A : List Nat) (j : Nat) : dupB S x (A ++ [j]) = (dupB S x A || S j == x) := by simp [dupB]
theorem sameB_snoc (T : Nat → Int) (x : Int) (A : List Nat) (j : Nat) : sameB T x (A ++ [j]) = (sameB T x A && T j == x) := by simp [sameB]
theorem markB_snoc (S : Nat → Int) (M : Nat → Bool) (top : Int) (A : List Nat) (j : Nat) : markB S M top (A ++ [j]) = (markB S M top A && !(M j && S j != top)) := by simp [markB]
theorem take_snoc {A : List Nat} {k : Nat} (h : k < A.length) : A.take (k + 1) = A.take k ++ [A.getD k 0] := by
  rw [List.take_succ_eq_append_getElem h]; simp [h]

theorem topF_spec (S : Nat → Int) (A : List Nat) : ∀ x, x ≤ topF S x A ∧ (∀ a ∈ A, S a ≤ topF S x A) ∧ (topF S x A = x ∨ ∃ a ∈ A, S a = topF S x A) := by
  induction A with
  | nil => intro x; exact ⟨Int.le_refl _, fun a h => by simp at h, Or.inl rfl⟩
  | cons b A ih =>
    intro x
    have e : topF S x (b :: A) = topF S (if x < S b then S b else x) A := rfl
    rw [e]
    by_cases hx : x < S b
    · rw [if_pos hx]
      obtain ⟨h1, h2, h3⟩ := ih (S b)
      refine ⟨by omega, ?_, ?_⟩
      · intro a ha
        rcases List.mem_cons.1 ha with rfl | ha
        · exact h1
        · exact h2 a ha
      · rcases h3 with h | ⟨a, ha, h⟩
        · exact Or.inr ⟨b, List.mem_cons_self, h.symm⟩
        · exact Or.inr ⟨a, List.mem_cons_of_mem _ ha, h⟩
    · rw [if_neg hx]
      obtain ⟨h1, h2, h3⟩ := ih x
      refine ⟨h1, ?_, ?_⟩
      · intro a ha
        rcases List.mem_cons.1 ha with rfl | ha
        · omega
        · exact h2 a ha
      · rcases h3 with h | ⟨a, ha, h⟩
        · exact Or.inl h
        · exact Or.inr ⟨a, List.mem_cons_of_mem _ ha, h⟩

/-- What the summary says of the group taken so far. -/
structure GInv (S T : Nat → Int) (M : Nat → Bool) (A : List Nat) (fts flast : Int) (flm : Bool) : Prop where
  ts : ∀ a ∈ A, T a = fts
  le : ∀ a ∈ A, S a ≤ flast
  hit : A ≠ [] → ∃ a ∈ A, S a = flast
  lm : ∀ a ∈ A, S a = flast → M a = flm
  mt : ∀ a ∈ A, M a = true → S a = flast

theorem GInv.nil (S T : Nat → Int) (M : Nat → Bool) : GInv S T M [] 0 0 false :=
  ⟨fun a h => by simp at h, fun a h => by simp at h, fun h => absurd rfl h, fun a h => by simp at h, fun a h => by simp at h⟩

def wantB (S T : Nat → Int) (M : Nat → Bool) (Z : Nat → Int) (A : List Nat) (i : Nat) (fr lim : Int) : Bool :=
  decide (Z i + sumZ Z A ≤ lim) && sameB T (T i) A && ((!M i || S i == topF S (S i) A) && markB S M (topF S (S i) A) A) && (A.length == 0 || decide (topF S (S i) A - fr < 16384))

/-- The group model and fits answer alike. -/
theorem fits_law {S T : Nat → Int} {M : Nat → Bool} {Z : Nat → Int} {A : List Nat} {fts flast : Int} {flm : Bool} {i : Nat} {fr lim : Int} (h : GInv S T M A fts flast flm) (hd : dupB S (S i) A = false) :
    fitsB A.length (sumZ Z A) fts flast flm (S i) (T i) (M i) (Z i) fr lim = wantB S T M Z A i fr lim := by
  have hne : ∀ a ∈ A, S a ≠ S i := by
    intro a ha e
    have : dupB S (S i) A = true := by unfold dupB; rw [List.any_eq_true]; exact ⟨a, ha, by simp [e]⟩
    rw [hd] at this; cases this
  by_cases hA : A = []
  · subst hA
    simp [fitsB, wantB, sumZ, sameB, markB, topF]
  · obtain ⟨a0, ha0, e0⟩ := h.hit hA
    have hpos : A.length ≠ 0 := by simpa using hA
    have hL : ¬ (A.length : Int) = 0 := by omega
    obtain ⟨t1, t2, t3⟩ := topF_spec S A (S i)
    have etop : topF S (S i) A = max (S i) flast := by
      have b1 := t2 a0 ha0
      rcases t3 with e | ⟨a, ha, e⟩
      · omega
      · have := h.le a ha; omega
    have esame : sameB T (T i) A = decide (T i = fts) := by
      rw [Bool.eq_iff_iff]; unfold sameB; rw [List.all_eq_true, decide_eq_true_iff]
      constructor
      · intro g; have := g a0 ha0; rw [h.ts a0 ha0] at this; exact (beq_iff_eq.1 this).symm
      · intro g a ha; rw [h.ts a ha]; exact beq_iff_eq.2 g.symm
    have hi : S i ≠ flast := by rw [← e0]; exact fun e => hne a0 ha0 e.symm
    have em : markB S M (max (S i) flast) A = !(flm && decide (flast < S i)) := by
      rw [Bool.eq_iff_iff]; unfold markB; rw [List.all_eq_true]
      have el := h.lm a0 ha0 e0
      constructor
      · intro g
        have := g a0 ha0
        rw [el, e0] at this
        cases flm
        · rfl
        · simp at this ⊢; omega
      · intro g a ha
        cases hm : M a
        · rfl
        · have e1 := h.mt a ha hm
          have e2 := h.lm a ha e1
          rw [hm] at e2; subst e2
          rw [e1]; simp at g ⊢; omega
    unfold fitsB wantB
    rw [etop, esame, em, decide_eq_false hL, show (A.length == 0) = false from beq_eq_false_iff_ne.2 hpos]
    have e1 : decide (sumZ Z A + Z i ≤ lim) = decide (Z i + sumZ Z A ≤ lim) := by rw [Int.add_comm]
    have e2 : (!M i || S i == max (S i) flast) = !(M i && decide (S i < flast)) := by
      cases M i
      · rfl
      · rw [Bool.eq_iff_iff]; simp; omega
    rw [e1, e2]
    simp only [Bool.false_or, Bool.and_assoc]

theorem inv_step {S T : Nat → Int} {M : Nat → Bool} {Z : Nat → Int} {A : List Nat} {fts flast : Int} {flm : Bool} {i : Nat} {fr lim : Int} (h : GInv S T M A fts flast flm) (hd : dupB S (S i) A = false)
    (hg : wantB S T M Z A i fr lim = true) : GInv S T M (A ++ [i]) (T i) (if A.length = 0 ∨ flast < S i then S i else flast) (if A.length = 0 ∨ flast < S i then M i else flm) := by
  have hne : ∀ a ∈ A, S a ≠ S i := by
    intro a ha e
    have : dupB S (S i) A = true := by unfold dupB; rw [List.any_eq_true]; exact ⟨a, ha, by simp [e]⟩
    rw [hd] at this; cases this
  unfold wantB at hg
  simp only [Bool.and_eq_true] at hg
  obtain ⟨⟨⟨_, g2⟩, g3, g4⟩, _⟩ := hg
  have hts : ∀ a ∈ A, T a = T i := by
    intro a ha; unfold sameB at g2; rw [List.all_eq_true] at g2; exact beq_iff_eq.1 (g2 a ha)
  obtain ⟨t1, t2, t3⟩ := topF_spec S A (S i)
  have hmk : ∀ a ∈ A, M a = true → S a = topF S (S i) A := by
    intro a ha hm
    unfold markB at g4; rw [List.all_eq_true] at g4
    have := g4 a ha
    rw [hm] at this; simpa using this
  by_cases hc : A.length = 0 ∨ flast < S i
  · rw [if_pos hc, if_pos hc]
    have hle : ∀ a ∈ A, S a ≤ S i := by
      intro a ha
      rcases hc with h0 | h0
      · have : A = [] := by simpa using h0
        subst this; simp at ha
      · have := h.le a ha; omega
    have etop : topF S (S i) A = S i := by
      rcases t3 with e | ⟨a, ha, e⟩
      · exact e
      · have := hle a ha; omega
    refine ⟨?_, ?_, ?_, ?_, ?_⟩
    · intro a ha; rcases List.mem_append.1 ha with ha | ha
      · exact hts a ha
      · simp at ha; subst ha; rfl
    · intro a ha; rcases List.mem_append.1 ha with ha | ha
      · exact hle a ha
      · simp at ha; subst ha; exact Int.le_refl _
    · intro _; exact ⟨i, by simp, rfl⟩
    · intro a ha e; rcases List.mem_append.1 ha with ha | ha
      · exact absurd e (hne a ha)
      · simp at ha; subst ha; rfl
    · intro a ha hm; rcases List.mem_append.1 ha with ha | ha
      · rw [hmk a ha hm, etop]
      · simp at ha; subst ha; rfl
  · rw [if_neg hc, if_neg hc]
    have hA : A ≠ [] := by intro e; subst e; simp at hc
    obtain ⟨a0, ha0, e0⟩ := h.hit hA
    have hi : S i < flast := by
      have := hne a0 ha0
      omega
    have etop : topF S (S i) A = flast := by
      have b1 := t2 a0 ha0
      rcases t3 with e | ⟨a, ha, e⟩
      · omega
      · have := h.le a ha; omega
    refine ⟨?_, ?_, ?_, ?_, ?_⟩
    · intro a ha; rcases List.mem_append.1 ha with ha | ha
      · exact hts a ha
      · simp at ha; subst ha; rfl
    · intro a ha; rcases List.mem_append.1 ha with ha | ha
      · exact h.le a ha
      · simp at ha; subst ha; omega
    · intro _; exact ⟨a0, by simp [ha0], e0⟩
    · intro a ha e; rcases List.mem_append.1 ha with ha | ha
      · exact h.lm a ha e
      · simp at ha; subst ha; omega
    · intro a ha hm; rcases List.mem_append.1 ha with ha | ha
      · exact h.mt a ha hm
      · simp at ha; subst ha
        rw [hm, etop] at g3
        simp at g3; omega

theorem sumZ_bd {Z : Nat → Int} {n : Nat} (hz : ∀ j, j < n → 0 ≤ Z j ∧ Z j ≤ 262144) : ∀ A : List Nat, (∀ a ∈ A, a < n) → 0 ≤ sumZ Z A ∧ sumZ Z A ≤ 262144 * A.length := by
  intro A
  induction A with
  | nil => intro _; simp [sumZ]
  | cons b A ih =>
    intro h
    have h1 := ih (fun a ha => h a (List.mem_cons_of_mem _ ha))
    have h2 := hz b (h b List.mem_cons_self)
    have e : sumZ Z (b :: A) = Z b + sumZ Z A := by simp [sumZ]
    rw [e]; simp only [List.length_cons]; omega
end Go.Proofs.Qxb6605570a
