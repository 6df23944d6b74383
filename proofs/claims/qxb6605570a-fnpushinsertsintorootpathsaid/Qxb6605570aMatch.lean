import Derived.Test.Qxb6605570aSift
namespace Go.Proofs.Qxb6605570a

/-! The greedy match, plain. -/
/-- From a rearrangement of images to a rearrangement of indices. -/
theorem perm_index {α β : Type} (f : α → β) {l l2 : List β} (h : l.Perm l2) : ∀ J0 : List α, l2 = J0.map f → ∃ J : List α, J.Perm J0 ∧ l = J.map f := by
  induction h with
  | nil => intro J0 h0; refine ⟨[], ?_, rfl⟩; cases J0 with
    | nil => exact List.Perm.refl _
    | cons a b => cases h0
  | cons x _ ih =>
    intro J0 h0
    cases J0 with
    | nil => cases h0
    | cons a b =>
      rw [List.map_cons, List.cons.injEq] at h0
      obtain ⟨J, j1, j2⟩ := ih b h0.2
      exact ⟨a :: J, j1.cons a, by rw [List.map_cons, j2, h0.1]⟩
  | swap x y l =>
    intro J0 h0
    cases J0 with
    | nil => cases h0
    | cons a b =>
      cases b with
      | nil => simp at h0
      | cons c d =>
        rw [List.map_cons, List.map_cons, List.cons.injEq, List.cons.injEq] at h0
        exact ⟨c :: a :: d, List.Perm.swap a c d, by rw [List.map_cons, List.map_cons, h0.1, h0.2.1, h0.2.2]⟩
  | trans _ _ ih1 ih2 =>
    intro J0 h0
    obtain ⟨J, j1, j2⟩ := ih2 J0 h0
    obtain ⟨J', k1, k2⟩ := ih1 J j2
    exact ⟨J', k1.trans j1, k2⟩

/-- The numbers 1 .. n that are not used yet. -/
def free (n : Nat) (used : Nat → Bool) : List Nat := ((List.range n).map (· + 1)).filter fun k => !used k

/-- What is left to be matched is what is free. -/
def Left {C : Type} (ct : Nat → C) (n i : Nat) (J : List Nat) (used : Nat → Bool) : Prop := ((J.drop i).map ct).Perm ((free n used).map ct)

theorem mem_free {n k : Nat} {used : Nat → Bool} : k ∈ free n used ↔ 1 ≤ k ∧ k ≤ n ∧ used k = false := by
  unfold free
  rw [List.mem_filter, List.mem_map]
  constructor
  · rintro ⟨⟨a, ha, rfl⟩, h⟩
    rw [List.mem_range] at ha
    exact ⟨by omega, by omega, by simpa using h⟩
  · rintro ⟨h1, h2, h3⟩
    exact ⟨⟨k - 1, List.mem_range.2 (by omega), by omega⟩, by simp [h3]⟩

theorem left_start {C : Type} (ct : Nat → C) {n : Nat} {J : List Nat} (h : J.Perm ((List.range n).map (· + 1))) : Left ct n 0 J (fun _ => false) := by
  unfold Left free
  rw [List.drop_zero, List.filter_eq_self.2 (by simp)]
  exact h.map ct

theorem left_find {C : Type} {ct : Nat → C} {n i : Nat} {J : List Nat} {used : Nat → Bool} (h : Left ct n i J used) (hi : i < J.length) : ∃ k, 1 ≤ k ∧ k ≤ n ∧ used k = false ∧ ct k = ct (J.getD i 0) := by
  have hm : ct (J.getD i 0) ∈ (J.drop i).map ct := by
    rw [List.drop_eq_getElem_cons hi, List.map_cons, List.getD_eq_getElem?_getD, List.getElem?_eq_getElem hi]
    exact List.mem_cons_self
  have := h.mem_iff.1 hm
  rw [List.mem_map] at this
  obtain ⟨k, hk, e⟩ := this
  obtain ⟨a, b, c⟩ := mem_free.1 hk
  exact ⟨k, a, b, c, e⟩

theorem left_step {C : Type} {ct : Nat → C} {n i k : Nat} {J : List Nat} {used : Nat → Bool} (h : Left ct n i J used) (hi : i < J.length) (h1 : 1 ≤ k) (h2 : k ≤ n) (h3 : used k = false) (h4 : ct k = ct (J.getD i 0)) :
    Left ct n (i + 1) J (fun x => if x = k then true else used x) := by
  have hnd : ∀ u : Nat → Bool, (free n u).Nodup := by
    intro u
    unfold free
    unfold List.Nodup
    refine List.Pairwise.filter _ ?_
    rw [List.pairwise_map]
    exact (List.nodup_range (n := n)).imp fun h => by omega
  have hp : (free n used).Perm (k :: free n (fun x => if x = k then true else used x)) := by
    rw [List.perm_ext_iff_of_nodup (hnd _) (by
      rw [List.nodup_cons]
      refine ⟨?_, hnd _⟩
      rw [mem_free]
      rintro ⟨_, _, x⟩
      simp at x)]
    intro a
    rw [List.mem_cons, mem_free, mem_free]
    by_cases e : a = k
    · subst e; simp [h1, h2, h3]
    · simp [e]
  unfold Left at h ⊢
  rw [List.drop_eq_getElem_cons hi, List.map_cons] at h
  have h5 := h.trans (hp.map ct)
  rw [List.map_cons, h4, List.getD_eq_getElem?_getD, List.getElem?_eq_getElem hi] at h5
  exact h5.cons_inv

end Go.Proofs.Qxb6605570a
