import Derived.Test.Qxb6605570aPop
namespace Go.Proofs.Qxb6605570a

/-! The sift down, plain: it keeps the packets and mends the order. -/
theorem upd_same (f : Nat → Pk) (i : Nat) (p : Pk) : upd f i p i = p := by unfold upd; rw [if_pos rfl]
theorem upd_other (f : Nat → Pk) {i j : Nat} (p : Pk) (h : j ≠ i) : upd f i p j = f j := by unfold upd; rw [if_neg h]

/-- Heap order over the first n, but for the hole i. -/
structure Hole (f : Nat → Pk) (n i : Nat) (last : Pk) : Prop where
  par : i = 0 ∨ (f ((i - 1) / 2)).seq ≤ last.seq
  rest : ∀ j, j < n → 1 ≤ j → j ≠ i → (j - 1) / 2 ≠ i → (f ((j - 1) / 2)).seq ≤ (f j).seq
  kids : ∀ j, j < n → 1 ≤ j → (j - 1) / 2 = i → i = 0 ∨ (f ((i - 1) / 2)).seq ≤ (f j).seq

def Ord (f : Nat → Pk) (n : Nat) : Prop := ∀ j, j < n → 1 ≤ j → (f ((j - 1) / 2)).seq ≤ (f j).seq

theorem kid_spec (f : Nat → Pk) (n i : Nat) : (kid f n i = 2 * i + 1 ∨ kid f n i = 2 * i + 2) ∧ (∀ j, j < n → 1 ≤ j → (j - 1) / 2 = i → kid f n i < n ∧ (f (kid f n i)).seq ≤ (f j).seq) := by
  unfold kid
  by_cases h : 2 * i + 1 + 1 < n ∧ (f (2 * i + 1 + 1)).seq < (f (2 * i + 1)).seq
  · rw [if_pos h]
    refine ⟨Or.inr rfl, ?_⟩
    intro j h1 h2 h3
    rcases (show j = 2 * i + 1 ∨ j = 2 * i + 1 + 1 by omega) with e | e
    · subst e; exact ⟨h.1, by omega⟩
    · subst e; exact ⟨h.1, Int.le_refl _⟩
  · rw [if_neg h]
    refine ⟨Or.inl rfl, ?_⟩
    intro j h1 h2 h3
    rcases (show j = 2 * i + 1 ∨ j = 2 * i + 1 + 1 by omega) with e | e
    · subst e; exact ⟨h1, Int.le_refl _⟩
    · subst e
      refine ⟨by omega, ?_⟩
      apply Classical.byContradiction
      intro hn
      exact h ⟨h1, by omega⟩

theorem ord_stop {f : Nat → Pk} {n i : Nat} {last : Pk} (h : Hole f n i last) (hs : n ≤ kid f n i ∨ last.seq ≤ (f (kid f n i)).seq) : Ord (upd f i last) n := by
  obtain ⟨k1, k2⟩ := kid_spec f n i
  intro j h1 h2
  by_cases e : j = i
  · subst e
    rw [upd_same, upd_other f last (show (j - 1) / 2 ≠ j by omega)]
    rcases h.par with h0 | h0
    · omega
    · exact h0
  · rw [upd_other f last e]
    by_cases ep : (j - 1) / 2 = i
    · rw [ep, upd_same]
      obtain ⟨x1, x2⟩ := k2 j h1 h2 ep
      rcases hs with hs | hs
      · omega
      · omega
    · rw [upd_other f last ep]
      exact h.rest j h1 h2 e ep

theorem hole_step {f : Nat → Pk} {n i c : Nat} {last : Pk} (h : Hole f n i last) (hc : kid f n i = c) (hs : ¬ (n ≤ c ∨ last.seq ≤ (f c).seq)) : Hole (upd f i (f c)) n c last := by
  obtain ⟨k1, k2⟩ := kid_spec f n i
  rw [hc] at k1 k2
  have hci : (c - 1) / 2 = i := by omega
  have hne : c ≠ i := by omega
  refine ⟨Or.inr ?_, ?_, ?_⟩
  · rw [hci, upd_same]; omega
  · intro j h1 h2 h3 h4
    by_cases e : j = i
    · subst e
      rw [upd_same, upd_other f _ (show (j - 1) / 2 ≠ j by omega)]
      rcases h.kids c (by omega) (by omega) hci with h0 | h0
      · omega
      · exact h0
    · rw [upd_other f _ e]
      by_cases ep : (j - 1) / 2 = i
      · rw [ep, upd_same]; exact (k2 j h1 h2 ep).2
      · rw [upd_other f _ ep]; exact h.rest j h1 h2 e ep
  · intro j h1 h2 h3
    right
    rw [hci, upd_same, upd_other f _ (show j ≠ i by omega)]
    have := h.rest j h1 h2 (by omega) (by omega)
    rw [h3] at this; exact this

theorem siftD_ord (last : Pk) (n : Nat) : ∀ (fuel : Nat) (f : Nat → Pk) (i : Nat), n ≤ i + fuel → i < n → Hole f n i last → Ord (siftD last n fuel f i) n := by
  intro fuel
  induction fuel with
  | zero => intro f i h1 h2; omega
  | succ k ih =>
    intro f i h1 h2 h
    by_cases hs : n ≤ kid f n i ∨ last.seq ≤ (f (kid f n i)).seq
    · rw [siftD_stop hs]; exact ord_stop h hs
    · rw [siftD_go rfl hs]
      have := (kid_spec f n i).1
      exact ih _ _ (by omega) (by omega) (hole_step h rfl hs)

/-- Two rows that differ by an exchange hold the same. -/
theorem perm_swap {n i c : Nat} {g1 g2 : Nat → Pk} (hi : i < n) (hc : c < n) (h1 : g1 i = g2 c) (h2 : g1 c = g2 i) (ho : ∀ j, j ≠ i → j ≠ c → g1 j = g2 j) : ((List.range n).map g1).Perm ((List.range n).map g2) := by
  let s : Nat → Nat := fun j => if j = i then c else if j = c then i else j
  have hs : ∀ j, g1 j = g2 (s j) := by
    intro j
    show g1 j = g2 (if j = i then c else if j = c then i else j)
    by_cases e1 : j = i
    · rw [if_pos e1, e1]; exact h1
    · rw [if_neg e1]
      by_cases e2 : j = c
      · rw [if_pos e2, e2]; exact h2
      · rw [if_neg e2]; exact ho j e1 e2
  have e : (List.range n).map g1 = ((List.range n).map s).map g2 := by
    rw [List.map_map]; exact List.map_congr_left fun j _ => hs j
  rw [e]
  apply List.Perm.map
  have hinj : ∀ a b, a ≠ b → s a ≠ s b := by
    intro a b hab
    show (if a = i then c else if a = c then i else a) ≠ (if b = i then c else if b = c then i else b)
    split <;> split <;> (try split) <;> (try split) <;> omega
  have hn : ((List.range n).map s).Nodup := by
    unfold List.Nodup
    rw [List.pairwise_map]
    exact (List.nodup_range (n := n)).imp fun h => hinj _ _ h
  rw [List.perm_ext_iff_of_nodup hn List.nodup_range]
  intro a
  rw [List.mem_map]
  constructor
  · rintro ⟨b, hb, rfl⟩
    rw [List.mem_range] at hb ⊢
    show (if b = i then c else if b = c then i else b) < n
    split
    · exact hc
    · split <;> omega
  · intro ha
    rw [List.mem_range] at ha
    by_cases e1 : a = i
    · refine ⟨c, List.mem_range.2 hc, ?_⟩
      show (if c = i then c else if c = c then i else c) = a
      by_cases e : c = i
      · rw [if_pos e]; omega
      · rw [if_neg e, if_pos rfl]; omega
    · by_cases e2 : a = c
      · refine ⟨i, List.mem_range.2 hi, ?_⟩
        show (if i = i then c else if i = c then i else i) = a
        rw [if_pos rfl]; omega
      · refine ⟨a, List.mem_range.2 ha, ?_⟩
        show (if a = i then c else if a = c then i else a) = a
        rw [if_neg e1, if_neg e2]

theorem siftD_perm (last : Pk) (n : Nat) : ∀ (fuel : Nat) (f : Nat → Pk) (i : Nat), i < n → ((List.range n).map (siftD last n fuel f i)).Perm ((List.range n).map (upd f i last)) := by
  intro fuel
  induction fuel with
  | zero => intro f i _; exact List.Perm.refl _
  | succ k ih =>
    intro f i h2
    by_cases hs : n ≤ kid f n i ∨ last.seq ≤ (f (kid f n i)).seq
    · rw [siftD_stop hs]
    · rw [siftD_go rfl hs]
      have hk := (kid_spec f n i).1
      generalize kid f n i = c at *
      have hcn : c < n := by omega
      refine (ih _ c hcn).trans (perm_swap hcn h2 ?_ ?_ ?_)
      · rw [upd_same, upd_same]
      · rw [upd_other _ _ (show i ≠ c by omega), upd_same, upd_other _ _ (show c ≠ i by omega)]
      · intro j h3 h4
        rw [upd_other _ _ h3, upd_other _ _ h4, upd_other _ _ h4]

/-- Nothing from n on is touched. -/
theorem siftD_far (last : Pk) (n : Nat) : ∀ (fuel : Nat) (f : Nat → Pk) (i j : Nat), i < n → n ≤ j → siftD last n fuel f i j = f j := by
  intro fuel
  induction fuel with
  | zero => intro f i j h1 h2; exact upd_other f last (by omega)
  | succ k ih =>
    intro f i j h1 h2
    by_cases hs : n ≤ kid f n i ∨ last.seq ≤ (f (kid f n i)).seq
    · rw [siftD_stop hs]; exact upd_other f last (by omega)
    · rw [siftD_go rfl hs, ih _ _ j (by omega) h2]
      exact upd_other f _ (by omega)

def relic (f : Nat → Pk) : Pk := ⟨0, 0, false, 0, (f 0).pa, (f 0).pl, (f 0).pc⟩

/-- THE PLAIN LAW OF pop: over a heap of n + 1 the first n are in heap order, hold all packets but the root, and slot n holds the relic. -/
theorem pop_ord {f : Nat → Pk} {n : Nat} (h : Ord f (n + 1)) : Ord (popF f n) n := by
  unfold popF
  by_cases hn : n = 0
  · subst hn; intro j h1; omega
  · rw [if_neg hn]
    refine siftD_ord _ _ _ _ _ (by omega) (by omega) ⟨Or.inl rfl, ?_, fun _ _ _ _ => Or.inl rfl⟩
    intro j h1 h2 h3 h4
    rw [upd_other _ _ (show (j - 1) / 2 ≠ n by omega), upd_other _ _ (show j ≠ n by omega)]
    exact h j (by omega) h2
theorem pop_far {f : Nat → Pk} {n j : Nat} (hj : n < j) : popF f n j = f j := by
  unfold popF
  by_cases hn : n = 0
  · rw [if_pos hn]; exact upd_other _ _ (by omega)
  · rw [if_neg hn, siftD_far _ _ _ _ _ _ (by omega) (by omega)]; exact upd_other _ _ (by omega)
theorem pop_relic (f : Nat → Pk) (n : Nat) : popF f n n = relic f := by
  unfold popF
  by_cases hn : n = 0
  · rw [if_pos hn, upd_same]; rfl
  · rw [if_neg hn, siftD_far _ _ _ _ _ _ (by omega) (Nat.le_refl _), upd_same]; rfl
theorem pop_perm (f : Nat → Pk) (n : Nat) : ((List.range n).map (popF f n)).Perm ((List.range n).map fun i => f (i + 1)) := by
  unfold popF
  by_cases hn : n = 0
  · subst hn; exact List.Perm.refl _
  · rw [if_neg hn]
    refine (siftD_perm _ n n _ 0 (by omega)).trans ?_
    obtain ⟨m, rfl⟩ : ∃ m, n = m + 1 := ⟨n - 1, by omega⟩
    have e1 : (List.range (m + 1)).map (upd (upd f (m + 1) ⟨0, 0, false, 0, (f 0).pa, (f 0).pl, (f 0).pc⟩) 0 (f (m + 1))) = f (m + 1) :: (List.range m).map fun i => f (i + 1) := by
      rw [List.range_succ_eq_map, List.map_cons, upd_same, List.map_map]
      congr 1
      apply List.map_congr_left
      intro j hj
      rw [List.mem_range] at hj
      show upd _ 0 _ (j + 1) = f (j + 1)
      rw [upd_other _ _ (show j + 1 ≠ 0 by omega), upd_other _ _ (show j + 1 ≠ m + 1 by omega)]
    have e2 : (List.range (m + 1)).map (fun i => f (i + 1)) = ((List.range m).map fun i => f (i + 1)) ++ [f (m + 1)] := by
      rw [List.range_succ, List.map_append]; rfl
    rw [e1, e2]
    exact List.perm_append_comm (l₁ := [f (m + 1)])

end Go.Proofs.Qxb6605570a
