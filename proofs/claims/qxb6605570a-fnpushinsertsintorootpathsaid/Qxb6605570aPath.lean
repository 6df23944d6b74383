import Derived.Test.Qxb6605570aHi
namespace Go.Proofs.Qxb6605570a
open Go.RowKit

/-- From a slot up to the root. -/
def anc (c : Nat) : List Nat := if h : c = 0 then [0] else c :: anc ((c - 1) / 2)
termination_by c
decreasing_by omega

theorem anc_zero : anc 0 = [0] := by rw [anc]; rfl
theorem anc_pos {c : Nat} (h : c ≠ 0) : anc c = c :: anc ((c - 1) / 2) := by rw [anc, dif_neg h]
theorem anc_len : ∀ k c : Nat, c + 1 < 2 ^ k → (anc c).length ≤ k := by
  intro k
  induction k with
  | zero => intro c h; simp at h
  | succ k ih =>
    intro c h
    by_cases h0 : c = 0
    · subst h0; rw [anc_zero]; simp
    · rw [anc_pos h0, List.length_cons]
      have := ih ((c - 1) / 2) (by rw [Nat.pow_succ] at h; omega)
      omega
theorem anc_pos_len (c : Nat) : 0 < (anc c).length := by
  by_cases h0 : c = 0
  · subst h0; rw [anc_zero]; simp
  · rw [anc_pos h0]; simp
theorem anc_le : ∀ n c : Nat, c ≤ n → ∀ x ∈ anc c, x ≤ c := by
  intro n
  induction n with
  | zero =>
    intro c hc x hx
    have : c = 0 := by omega
    subst this
    rw [anc_zero, List.mem_singleton] at hx; omega
  | succ n ih =>
    intro c hc x hx
    by_cases h0 : c = 0
    · subst h0; rw [anc_zero, List.mem_singleton] at hx; omega
    · rw [anc_pos h0, List.mem_cons] at hx
      rcases hx with rfl | hx
      · omega
      · have := ih _ (by omega) x hx
        omega
theorem anc_mem_le {c x : Nat} (h : x ∈ anc c) : x ≤ c := anc_le c c (Nat.le_refl _) x h
theorem anc_head (c : Nat) : (anc c).getD 0 0 = c := by
  by_cases h0 : c = 0
  · subst h0; rw [anc_zero]; rfl
  · rw [anc_pos h0]; rfl
theorem anc_getD_mem {c d : Nat} (h : d < (anc c).length) : (anc c).getD d 0 ∈ anc c := by
  rw [List.getD_eq_getElem?_getD, List.getElem?_eq_getElem h]; exact List.getElem_mem h

/-- What the sift up makes of the path. -/
structure PathLaw (p : Pk) (f F : Nat → Pk) (up : List Nat) (D : Nat) : Prop where
  lt : D < up.length
  iff : ∀ d, 1 ≤ d → d < up.length → ((f (up.getD d 0)).seq ≤ p.seq ↔ D < d)
  at' : ∀ d, d < up.length → F (up.getD d 0) = if D < d then f (up.getD d 0) else if d = D then p else f (up.getD (d + 1) 0)
  off : ∀ x, x ∉ up → F x = f x

theorem siftU_path (p : Pk) : ∀ (fuel : Nat) (f : Nat → Pk) (i : Nat), i ≤ fuel → (∀ d, 1 ≤ d → d + 1 < (anc i).length → (f ((anc i).getD (d + 1) 0)).seq ≤ (f ((anc i).getD d 0)).seq) → ∃ D, PathLaw p f (siftU p fuel f i) (anc i) D := by
  have stop : ∀ (fuel : Nat) (f : Nat → Pk) (i : Nat), (i = 0 ∨ (f ((i - 1) / 2)).seq ≤ p.seq) → (∀ d, 1 ≤ d → d + 1 < (anc i).length → (f ((anc i).getD (d + 1) 0)).seq ≤ (f ((anc i).getD d 0)).seq) → ∃ D, PathLaw p f (siftU p fuel f i) (anc i) D := by
    intro fuel f i hs hsort
    rw [siftU_stop hs]
    have all : ∀ d, 1 ≤ d → d < (anc i).length → (f ((anc i).getD d 0)).seq ≤ p.seq := by
      intro d
      induction d with
      | zero => intro h; omega
      | succ d ih =>
        intro _ h2
        by_cases hd : d = 0
        · subst hd
          rcases hs with rfl | hs
          · rw [anc_zero] at h2; simp at h2
          · by_cases h0 : i = 0
            · subst h0; rw [anc_zero] at h2; simp at h2
            · rw [anc_pos h0]
              show (f ((anc ((i - 1) / 2)).getD 0 0)).seq ≤ p.seq
              rw [anc_head]; exact hs
        · have := hsort d (by omega) h2
          have := ih (by omega) (by omega)
          omega
    have ne : ∀ d, 1 ≤ d → d < (anc i).length → (anc i).getD d 0 ≠ i := by
      intro d h1 h2
      by_cases h0 : i = 0
      · subst h0; rw [anc_zero] at h2; simp at h2; omega
      · rw [anc_pos h0] at h2 ⊢
        obtain ⟨d, rfl⟩ : ∃ e, d = e + 1 := ⟨d - 1, by omega⟩
        show (anc ((i - 1) / 2)).getD d 0 ≠ i
        have := anc_mem_le (anc_getD_mem (c := (i - 1) / 2) (d := d) (by simpa using h2))
        omega
    refine ⟨0, anc_pos_len i, fun d h1 h2 => ⟨fun _ => by omega, fun _ => all d h1 h2⟩, ?_, ?_⟩
    · intro d hd
      by_cases e : d = 0
      · subst e; rw [if_neg (by omega), if_pos rfl, anc_head, upd_same]
      · rw [if_pos (by omega), upd_other _ _ (ne d (by omega) hd)]
    · intro x hx
      refine upd_other _ _ ?_
      rintro rfl
      exact hx (by have := anc_getD_mem (c := x) (d := 0) (anc_pos_len x); rwa [anc_head] at this)
  intro fuel
  induction fuel with
  | zero => intro f i hi hsort; exact stop 0 f i (Or.inl (by omega)) hsort
  | succ k ih =>
    intro f i hi hsort
    by_cases hs : i = 0 ∨ (f ((i - 1) / 2)).seq ≤ p.seq
    · exact stop (k + 1) f i hs hsort
    · rw [siftU_go rfl hs]
      have h0 : i ≠ 0 := fun e => hs (Or.inl e)
      have hup : ¬ (f ((i - 1) / 2)).seq ≤ p.seq := fun e => hs (Or.inr e)
      obtain ⟨u, hu⟩ : ∃ u, (i - 1) / 2 = u := ⟨_, rfl⟩
      have e1 : anc i = i :: anc u := by rw [anc_pos h0, hu]
      rw [hu] at hup ⊢
      have hui : u < i := by omega
      have same : ∀ x ∈ anc u, upd f i (f u) x = f x := fun x hx => upd_other _ _ (by have := anc_mem_le hx; omega)
      have len : (anc i).length = (anc u).length + 1 := by rw [e1]; rfl
      have gs : ∀ d, (anc i).getD (d + 1) 0 = (anc u).getD d 0 := fun d => by rw [e1]; rfl
      obtain ⟨D, hD⟩ := ih (upd f i (f u)) u (by omega) (by
        intro d h1 h2
        rw [same _ (anc_getD_mem h2), same _ (anc_getD_mem (by omega))]
        have := hsort (d + 1) (by omega) (by omega)
        rw [gs, gs] at this
        exact this)
      have hF : siftU p k (upd f i (f u)) u i = f u := by
        rw [hD.off i (fun h => by have := anc_mem_le h; omega), upd_same]
      refine ⟨D + 1, by have := hD.lt; omega, ?_, ?_, ?_⟩
      · intro d h1 h2
        obtain ⟨e, rfl⟩ : ∃ e, d = e + 1 := ⟨d - 1, by omega⟩
        rw [gs]
        by_cases he : e = 0
        · subst he
          rw [anc_head]
          exact ⟨fun x => absurd x hup, fun x => by omega⟩
        · have q := hD.iff e (by omega) (by omega)
          rw [same _ (anc_getD_mem (by omega))] at q
          exact q.trans ⟨fun x => by omega, fun x => by omega⟩
      · intro d hd
        by_cases he : d = 0
        · subst he
          rw [if_neg (by omega), if_neg (by omega), anc_head, gs, anc_head]
          exact hF
        · obtain ⟨e, rfl⟩ : ∃ e, d = e + 1 := ⟨d - 1, by omega⟩
          rw [gs, gs]
          have q := hD.at' e (by omega)
          rw [q]
          by_cases c1 : D < e
          · rw [if_pos c1, if_pos (show D + 1 < e + 1 by omega), same _ (anc_getD_mem (by omega))]
          · by_cases c2 : e = D
            · rw [if_neg c1, if_pos c2, if_neg (show ¬ D + 1 < e + 1 by omega), if_pos (show e + 1 = D + 1 by omega)]
            · have := hD.lt
              rw [if_neg c1, if_neg c2, if_neg (show ¬ D + 1 < e + 1 by omega), if_neg (show ¬ e + 1 = D + 1 by omega), same _ (anc_getD_mem (by omega))]
      · intro x hx
        rw [e1, List.mem_cons, not_or] at hx
        rw [hD.off x hx.2, upd_other _ _ hx.1]

/-- The parent in the path. -/
theorem anc_next : ∀ m c d : Nat, c ≤ m → d + 1 < (anc c).length → (anc c).getD (d + 1) 0 = ((anc c).getD d 0 - 1) / 2 ∧ 1 ≤ (anc c).getD d 0 := by
  intro m
  induction m with
  | zero =>
    intro c d hc h
    have : c = 0 := by omega
    subst this
    rw [anc_zero] at h; simp at h
  | succ m ih =>
    intro c d hc h
    by_cases h0 : c = 0
    · subst h0; rw [anc_zero] at h; simp at h
    · have e1 := anc_pos h0
      rw [e1] at h ⊢
      cases d with
      | zero =>
        show (anc ((c - 1) / 2)).getD 0 0 = (c - 1) / 2 ∧ 1 ≤ c
        rw [anc_head]; exact ⟨rfl, by omega⟩
      | succ d =>
        exact ih ((c - 1) / 2) d (by omega) (by simpa using h)

theorem push_path {f : Nat → Pk} {n : Nat} (p : Pk) (h : Ord f n) : ∃ D, PathLaw p (upd f n p) (siftU p n (upd f n p) n) (anc n) D := by
  refine siftU_path p n (upd f n p) n (Nat.le_refl _) ?_
  intro d h1 h2
  obtain ⟨q1, q2⟩ := anc_next n n d (Nat.le_refl _) h2
  have lt1 : (anc n).getD d 0 < n := by
    obtain ⟨e, rfl⟩ : ∃ e, d = e + 1 := ⟨d - 1, by omega⟩
    obtain ⟨r1, r2⟩ := anc_next n n e (Nat.le_refl _) (by omega)
    have := anc_mem_le (anc_getD_mem (c := n) (d := e) (by omega))
    rw [r1]; omega
  rw [q1, upd_other _ _ (by omega), upd_other _ _ (by omega)]
  exact h _ lt1 q2

theorem anc_lt {n d : Nat} (h1 : 1 ≤ d) (h2 : d < (anc n).length) : (anc n).getD d 0 < n := by
  obtain ⟨e, rfl⟩ : ∃ e, d = e + 1 := ⟨d - 1, by omega⟩
  obtain ⟨r1, r2⟩ := anc_next n n e (Nat.le_refl _) (by omega)
  have := anc_mem_le (anc_getD_mem (c := n) (d := e) (by omega))
  rw [r1]; omega

end Go.Proofs.Qxb6605570a
