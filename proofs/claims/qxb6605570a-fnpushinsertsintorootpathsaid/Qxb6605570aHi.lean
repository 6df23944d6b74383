import Derived.Test.Qxb6605570aZPush
namespace Go.Proofs.Qxb6605570a
open Go.RowKit

/-- Heap order over the first n, but for the hole i, which p may fill. -/
structure HoleU (f : Nat → Pk) (n i : Nat) (p : Pk) : Prop where
  rest : ∀ j, j < n → 1 ≤ j → j ≠ i → (j - 1) / 2 ≠ i → (f ((j - 1) / 2)).seq ≤ (f j).seq
  kids : ∀ j, j < n → 1 ≤ j → (j - 1) / 2 = i → p.seq ≤ (f j).seq
  gkids : ∀ j, j < n → 1 ≤ j → (j - 1) / 2 = i → i = 0 ∨ (f ((i - 1) / 2)).seq ≤ (f j).seq

theorem ordU_stop {f : Nat → Pk} {n i : Nat} {p : Pk} (h : HoleU f n i p) (hs : i = 0 ∨ (f ((i - 1) / 2)).seq ≤ p.seq) : Ord (upd f i p) n := by
  intro j h1 h2
  by_cases e1 : j = i
  · subst e1
    rw [upd_same, upd_other _ _ (show (j - 1) / 2 ≠ j by omega)]
    rcases hs with hs | hs
    · omega
    · exact hs
  · rw [upd_other _ _ e1]
    by_cases e2 : (j - 1) / 2 = i
    · rw [e2, upd_same]; exact h.kids j h1 h2 e2
    · rw [upd_other _ _ e2]; exact h.rest j h1 h2 e1 e2

theorem holeU_step {f : Nat → Pk} {n i u : Nat} {p : Pk} (h : HoleU f n i p) (hin : i < n) (hu : (i - 1) / 2 = u) (hs : ¬ (i = 0 ∨ (f u).seq ≤ p.seq)) : HoleU (upd f i (f u)) n u p := by
  have hui : u < i := by omega
  have up : u = 0 ∨ (f ((u - 1) / 2)).seq ≤ (f u).seq := by
    by_cases e : u = 0
    · exact Or.inl e
    · exact Or.inr (h.rest u (by omega) (by omega) (by omega) (by omega))
  have sib : ∀ j, j < n → 1 ≤ j → (j - 1) / 2 = u → (f u).seq ≤ (upd f i (f u) j).seq := by
    intro j h1 h2 h3
    by_cases e : j = i
    · subst e; rw [upd_same]; exact Int.le_refl _
    · rw [upd_other _ _ e]
      have := h.rest j h1 h2 e (by omega)
      rw [h3] at this; exact this
  refine ⟨?_, ?_, ?_⟩
  · intro j h1 h2 h3 h4
    by_cases e : j = i
    · subst e; omega
    · rw [upd_other _ _ e]
      by_cases e2 : (j - 1) / 2 = i
      · rw [e2, upd_same]
        rcases h.gkids j h1 h2 e2 with q | q
        · omega
        · rw [hu] at q; exact q
      · rw [upd_other _ _ e2]; exact h.rest j h1 h2 e e2
  · intro j h1 h2 h3
    have := sib j h1 h2 h3
    omega
  · intro j h1 h2 h3
    rcases up with q | q
    · exact Or.inl q
    · right
      rw [upd_other _ _ (show (u - 1) / 2 ≠ i by omega)]
      have := sib j h1 h2 h3
      omega

theorem siftU_ord (p : Pk) (n : Nat) : ∀ (fuel : Nat) (f : Nat → Pk) (i : Nat), i ≤ fuel → i < n → HoleU f n i p → Ord (siftU p fuel f i) n := by
  intro fuel
  induction fuel with
  | zero => intro f i h1 h2 h; exact ordU_stop h (Or.inl (by omega))
  | succ k ih =>
    intro f i h1 h2 h
    by_cases hs : i = 0 ∨ (f ((i - 1) / 2)).seq ≤ p.seq
    · rw [siftU_stop hs]; exact ordU_stop h hs
    · rw [siftU_go rfl hs]
      exact ih _ _ (by omega) (by omega) (holeU_step h h2 rfl hs)
theorem siftU_perm (p : Pk) (n : Nat) : ∀ (fuel : Nat) (f : Nat → Pk) (i : Nat), i < n → ((List.range n).map (siftU p fuel f i)).Perm ((List.range n).map (upd f i p)) := by
  intro fuel
  induction fuel with
  | zero => intro f i _; exact List.Perm.refl _
  | succ k ih =>
    intro f i h2
    by_cases hs : i = 0 ∨ (f ((i - 1) / 2)).seq ≤ p.seq
    · rw [siftU_stop hs]
    · rw [siftU_go rfl hs]
      have hk : (i - 1) / 2 < i := by omega
      generalize (i - 1) / 2 = c at *
      have hcn : c < n := by omega
      refine (ih _ c hcn).trans (perm_swap hcn h2 ?_ ?_ ?_)
      · rw [upd_same, upd_same]
      · rw [upd_other _ _ (show i ≠ c by omega), upd_same, upd_other _ _ (show c ≠ i by omega)]
      · intro j h3 h4
        rw [upd_other _ _ h3, upd_other _ _ h4, upd_other _ _ h4]
theorem siftU_far (p : Pk) : ∀ (fuel : Nat) (f : Nat → Pk) (i j : Nat), i < j → siftU p fuel f i j = f j := by
  intro fuel
  induction fuel with
  | zero => intro f i j h; exact upd_other f p (by omega)
  | succ k ih =>
    intro f i j h
    by_cases hs : i = 0 ∨ (f ((i - 1) / 2)).seq ≤ p.seq
    · rw [siftU_stop hs]; exact upd_other f p (by omega)
    · rw [siftU_go rfl hs, ih _ _ j (by omega)]
      exact upd_other f _ (by omega)

theorem push_ord {f : Nat → Pk} {k : Nat} {p : Pk} (h : Ord f k) : Ord (siftU p k (upd f k p) k) (k + 1) := by
  refine siftU_ord p (k + 1) k _ k (Nat.le_refl _) (by omega) ⟨?_, fun j h1 h2 h3 => by omega, fun j h1 h2 h3 => by omega⟩
  intro j h1 h2 h3 h4
  rw [upd_other _ _ h3, upd_other _ _ h4]
  exact h j (by omega) h2
theorem upd_upd (f : Nat → Pk) (i : Nat) (p q : Pk) : upd (upd f i p) i q = upd f i q := by
  funext j; unfold upd; split <;> rfl
theorem push_perm (f : Nat → Pk) {k n : Nat} (p : Pk) (hk : k < n) : ((List.range n).map (siftU p k (upd f k p) k)).Perm ((List.range n).map (upd f k p)) := by
  have := siftU_perm p n k (upd f k p) k hk
  rwa [upd_upd] at this
theorem push_perm1 (f : Nat → Pk) (k : Nat) (p : Pk) : ((List.range (k + 1)).map (siftU p k (upd f k p) k)).Perm (p :: (List.range k).map f) := by
  refine (push_perm f p (Nat.lt_succ_self k)).trans ?_
  rw [List.range_succ, List.map_append, List.map_cons, List.map_nil, upd_same]
  have e : (List.range k).map (upd f k p) = (List.range k).map f := List.map_congr_left fun j hj => upd_other _ _ (by rw [List.mem_range] at hj; omega)
  rw [e]
  exact List.perm_append_comm (l₂ := [p])

/-! The heap of a script. -/
abbrev Cont := Int × Int × Bool × Int × List Int
def zbOf (zb : Nat → Nat → Int) : Option Addr → Nat → Int
  | some a => zb a.block
  | none => fun _ => 0
def cont (zb : Nat → Nat → Int) (q : Pk) : Cont := (q.seq, q.ts, q.mkr, q.sz, (List.range q.pl).map (zbOf zb q.pa))
def Pk.pay (q : Pk) : Option Addr × Nat × Nat := (q.pa, q.pl, q.pc)
def blk (t : Option Addr × Nat × Nat) : Option Nat := t.1.map (·.block)
/-- Two payloads share no block. -/
def Apart (s t : Option Addr × Nat × Nat) : Prop := blk s = none ∨ blk s ≠ blk t
/-- A payload's memory is owned, above B, and reads as zb says. -/
def Keeps (w : World) (B : Nat) (zb : Nat → Nat → Int) (t : Option Addr × Nat × Nat) : Prop := PayOwn w t.1 t.2.1 t.2.2 (zbOf zb t.1) ∧ ∀ b, blk t = some b → B ≤ b

theorem Apart.symm {s t : Option Addr × Nat × Nat} (h : Apart s t) : Apart t s := by
  unfold Apart at *
  cases ht : blk t with
  | none => exact Or.inl rfl
  | some b =>
    right
    rcases h with h | h
    · rw [h]; simp
    · rw [ht] at h; exact fun e => h e.symm

theorem pairs_iff (F : Nat → Pk) (n : Nat) : ((List.range n).map fun i => (F i).pay).Pairwise Apart ↔ ∀ i j, i < n → j < n → i ≠ j → Apart (F i).pay (F j).pay := by
  rw [List.pairwise_iff_getElem]
  constructor
  · intro h i j hi hj hne
    rcases Nat.lt_or_gt_of_ne hne with q | q
    · have := h i j (by simpa using hi) (by simpa using hj) q
      simpa using this
    · have := h j i (by simpa using hj) (by simpa using hi) q
      exact Apart.symm (by simpa using this)
  · intro h i j hi hj hij
    have := h i j (by simpa using hi) (by simpa using hj) (by omega)
    simpa using this

structure HI (w9 wr : World) (HB GB n k : Nat) (F : Nat → Pk) (zb : Nat → Nat → Int) (cs : List Cont) : Prop where
  bel : Below w9.heap.size w9 wr
  hbge : w9.heap.size ≤ HB
  gbge : w9.heap.size ≤ GB
  hne : HB ≠ GB
  kn : k ≤ n
  hcell : Lies wr HB #[.slice (some ⟨GB, 0, none⟩) k n] 43
  heap : BlkTo wr 46 GB (5 * n) (5 * n) (hc F)
  hold : ∀ t ∈ (List.range n).map (fun i => (F i).pay), Keeps wr w9.heap.size zb t
  dist : ((List.range n).map fun i => (F i).pay).Pairwise Apart
  ord : Ord F k
  perm : ((List.range k).map fun i => cont zb (F i)).Perm cs

theorem HI.at {w9 wr : World} {HB GB n k : Nat} {F : Nat → Pk} {zb : Nat → Nat → Int} {cs : List Cont} (h : HI w9 wr HB GB n k F zb cs) {i : Nat} (hi : i < n) : Keeps wr w9.heap.size zb (F i).pay :=
  h.hold _ (List.mem_map.2 ⟨i, List.mem_range.2 hi, rfl⟩)

/-- A world that keeps all blocks but one that is neither the heap's nor a payload's. -/
theorem HI.far {w9 wr W : World} {HB GB n k : Nat} {F : Nat → Pk} {zb : Nat → Nat → Int} {cs : List Cont} (h : HI w9 wr HB GB n k F zb cs) (G : Nat) (bel : Below w9.heap.size w9 W) (hG1 : G ≠ HB) (hG2 : G ≠ GB) (hG3 : ∀ i, i < n → ∀ x, (F i).pa = some x → x.block ≠ G)
    (hb : ∀ j, j < wr.heap.size → j ≠ G → W.heap[j]? = wr.heap[j]?) : HI w9 W HB GB n k F zb cs := by
  refine ⟨bel, h.hbge, h.gbge, h.hne, h.kn, h.hcell.of_block (hb _ h.hcell.lt (fun e => hG1 e.symm)), h.heap.of_block (hb _ h.heap.lt (fun e => hG2 e.symm)), ?_, h.dist, h.ord, h.perm⟩
  intro t ht
  obtain ⟨i, hi, rfl⟩ := List.mem_map.1 ht
  rw [List.mem_range] at hi
  have q := h.at hi
  exact ⟨q.1.of_block fun x hx => hb _ (q.1.lt x hx) (hG3 i hi x hx), q.2⟩
theorem HI.below {w9 wr W : World} {HB GB n k : Nat} {F : Nat → Pk} {zb : Nat → Nat → Int} {cs : List Cont} (h : HI w9 wr HB GB n k F zb cs) (hb : Below wr.heap.size wr W) : HI w9 W HB GB n k F zb cs := by
  have s1 := h.bel.size
  refine ⟨h.bel.trans (hb.mono s1), h.hbge, h.gbge, h.hne, h.kn, h.hcell.of_block (hb.block _ h.hcell.lt), h.heap.of_block (hb.block _ h.heap.lt), ?_, h.dist, h.ord, h.perm⟩
  intro t ht
  have q := h.hold t ht
  exact ⟨q.1.of_block fun x hx => hb.block _ (q.1.lt x hx), q.2⟩
theorem HI.cs {w9 wr : World} {HB GB n k : Nat} {F : Nat → Pk} {zb : Nat → Nat → Int} {cs cs' : List Cont} (h : HI w9 wr HB GB n k F zb cs) (hp : cs.Perm cs') : HI w9 wr HB GB n k F zb cs' :=
  ⟨h.bel, h.hbge, h.gbge, h.hne, h.kn, h.hcell, h.heap, h.hold, h.dist, h.ord, h.perm.trans hp⟩

theorem blk_some {q : Pk} {x : Addr} (h : q.pa = some x) : blk q.pay = some x.block := by unfold blk Pk.pay; rw [h]; rfl

theorem HI.push {w9 W w' : World} {HB GB n k : Nat} {F : Nat → Pk} {zb : Nat → Nat → Int} {cs : List Cont} (h : HI w9 W HB GB n k F zb cs) (hk : k < n) {p : Pk} {zf : Nat → Int}
    (hE : PEnd W w' HB GB k GB n n ((F k).pa.map (·.block)) p zf (siftU p k (upd F k p) k)) :
    ∃ zb', HI w9 w' HB GB n (k + 1) (siftU p k (upd F k p) k) zb' ((p.seq, p.ts, p.mkr, p.sz, (List.range p.pl).map zf) :: cs) := by
  have rowB : ∀ b, (F k).pa.map (·.block) = some b → w9.heap.size ≤ b := (h.at hk).2
  have s1 := h.bel.size
  have hd := (pairs_iff F n).1 h.dist
  have fA : ∀ i, i < n → i ≠ k → ∀ x, (F i).pa = some x → blk p.pay ≠ some x.block := by
    intro i hi hik x hx e
    cases hpa : p.pa with
    | none => unfold blk Pk.pay at e; rw [hpa] at e; cases e
    | some y =>
      rw [blk_some hpa] at e
      have e' : y.block = x.block := Option.some.inj e
      rcases hE.payb y hpa with q | q
      · rcases hd i k hi hk hik with r | r
        · rw [blk_some hx] at r; cases r
        · apply r
          rw [blk_some hx]
          show _ = (F k).pa.map (·.block)
          rw [q, e']
      · have := (h.at hi).1.lt x hx
        omega
  have fR : ∀ i, i < n → i ≠ k → ∀ x, (F i).pa = some x → some x.block ≠ (F k).pa.map (·.block) := by
    intro i hi hik x hx e
    rcases hd i k hi hk hik with r | r
    · rw [blk_some hx] at r; cases r
    · exact r (by rw [blk_some hx]; exact e)
  obtain ⟨zb', hzb⟩ : ∃ zb' : Nat → Nat → Int, ∀ b, zb' b = if blk p.pay = some b then zf else zb b := ⟨_, fun _ => rfl⟩
  have fB : ∀ i, i < n → i ≠ k → zbOf zb' (F i).pa = zbOf zb (F i).pa := by
    intro i hi hik
    cases hpa : (F i).pa with
    | none => rfl
    | some x =>
      show zb' x.block = zb x.block
      rw [hzb, if_neg (fA i hi hik x hpa)]
  have fD : PayOwn w' p.pa p.pl p.pc (zbOf zb' p.pa) := by
    have q := hE.pay
    cases hpa : p.pa with
    | none =>
      rw [hpa] at q
      rcases q with q | ⟨b, q, _⟩
      · exact Or.inl q
      · cases q
    | some y =>
      rw [hpa] at q
      have e : zbOf zb' (some y) = zf := by
        show zb' y.block = zf
        rw [hzb, if_pos (blk_some hpa)]
      rw [e]; exact q
  have fC : cont zb' p = (p.seq, p.ts, p.mkr, p.sz, (List.range p.pl).map zf) := by
    unfold cont
    have : (List.range p.pl).map (zbOf zb' p.pa) = (List.range p.pl).map zf := by
      cases hpa : p.pa with
      | none =>
        have q := hE.pay
        rw [hpa] at q
        rcases q with ⟨_, q, _⟩ | ⟨b, q, _⟩
        · rw [q]; rfl
        · cases q
      | some y =>
        have e : zbOf zb' (some y) = zf := by
          show zb' y.block = zf
          rw [hzb, if_pos (blk_some hpa)]
        rw [e]
    rw [this]
  have PP : ((List.range n).map fun i => (siftU p k (upd F k p) k i).pay).Perm ((List.range n).map fun i => (upd F k p i).pay) := by
    have := (push_perm F p hk).map Pk.pay
    rw [List.map_map, List.map_map] at this
    exact this
  refine ⟨zb', ?_, h.hbge, h.gbge, h.hne, by omega, hE.hcell, hE.heap, ?_, ?_, push_ord h.ord, ?_⟩
  · refine h.bel.trans ⟨hE.os, hE.tape, hE.output, hE.size, fun j hj => hE.block j (by omega) (by have := h.gbge; omega) (by have := h.hbge; omega) (fun e => by have := rowB j e.symm; omega)⟩
  · intro t ht
    obtain ⟨i, hi, rfl⟩ := List.mem_map.1 (PP.mem_iff.1 ht)
    rw [List.mem_range] at hi
    by_cases e : i = k
    · subst e
      rw [upd_same]
      refine ⟨fD, fun b hb => ?_⟩
      cases hpa : p.pa with
      | none => unfold blk Pk.pay at hb; rw [hpa] at hb; cases hb
      | some y =>
        rw [blk_some hpa] at hb
        cases hb
        rcases hE.payb y hpa with q | q
        · exact rowB _ q
        · omega
    · rw [upd_other _ _ e]
      have q := h.at hi
      refine ⟨?_, q.2⟩
      show PayOwn w' (F i).pa (F i).pl (F i).pc (zbOf zb' (F i).pa)
      rw [fB i hi e]
      exact q.1.of_block fun x hx => hE.block _ (q.1.lt x hx) (q.1.not46 h.heap x hx) (q.1.not43 h.hcell x hx) (fR i hi e x hx)
  · rw [PP.pairwise_iff Apart.symm, pairs_iff]
    intro i j hi hj hij
    by_cases e1 : i = k
    · subst e1
      rw [upd_same, upd_other _ _ (fun e => hij e.symm)]
      apply Apart.symm
      unfold Apart
      cases hpa : (F j).pa with
      | none => left; unfold blk Pk.pay; rw [hpa]; rfl
      | some x => right; rw [blk_some hpa]; exact fun e => fA j hj (fun e => hij e.symm) x hpa e.symm
    · rw [upd_other _ _ e1]
      by_cases e2 : j = k
      · subst e2
        rw [upd_same]
        unfold Apart
        cases hpa : (F i).pa with
        | none => left; unfold blk Pk.pay; rw [hpa]; rfl
        | some x => right; rw [blk_some hpa]; exact fun e => fA i hi e1 x hpa e.symm
      · rw [upd_other _ _ e2]; exact hd i j hi hj hij
  · have q := (push_perm1 F k p).map (cont zb')
    rw [List.map_map, List.map_cons, fC, List.map_map] at q
    refine q.trans (List.Perm.cons _ ?_)
    have e : (List.range k).map (cont zb' ∘ F) = (List.range k).map fun i => cont zb (F i) := by
      apply List.map_congr_left
      intro i hi
      rw [List.mem_range] at hi
      show cont zb' (F i) = cont zb (F i)
      unfold cont
      rw [fB i (by omega) (by omega)]
    rw [e]
    exact h.perm

theorem HI.pop {w9 W w' : World} {HB GB n m : Nat} {F : Nat → Pk} {zb : Nat → Nat → Int} {cs cs' : List Cont} (h : HI w9 W HB GB n (m + 1) F zb cs)
    (hA : After W w' HB GB n (.slice (some ⟨GB, 0, none⟩) m n) (popF F m)) (hp : cs.Perm (cont zb (F 0) :: cs')) : HI w9 w' HB GB n m (popF F m) zb cs' := by
  have s1 := h.bel.size
  have hmn := h.kn
  have e0 : (List.range (m + 1)).map F = F 0 :: (List.range m).map fun i => F (i + 1) := by
    rw [List.range_succ_eq_map, List.map_cons, List.map_map]; rfl
  have e1 : ∀ G : Nat → Pk, (List.range n).map (fun i => (G i).pay) = (List.range (m + 1)).map (fun i => (G i).pay) ++ (List.range (n - (m + 1))).map (fun i => (G (m + 1 + i)).pay) := by
    intro G
    have : List.range n = List.range (m + 1) ++ (List.range (n - (m + 1))).map (fun i => m + 1 + i) := by
      rw [← List.range_add, show m + 1 + (n - (m + 1)) = n from by omega]
    rw [this, List.map_append, List.map_map]
    rfl
  have PP : ((List.range n).map fun i => (popF F m i).pay).Perm ((List.range n).map fun i => (F i).pay) := by
    rw [e1, e1]
    have e2 : (List.range (n - (m + 1))).map (fun i => (popF F m (m + 1 + i)).pay) = (List.range (n - (m + 1))).map (fun i => (F (m + 1 + i)).pay) :=
      List.map_congr_left fun i _ => by rw [pop_far (by omega)]
    rw [e2]
    refine List.Perm.append_right _ ?_
    have q := (pop_perm F m).map Pk.pay
    rw [List.map_map, List.map_map] at q
    have l1 : (List.range (m + 1)).map (fun i => (popF F m i).pay) = (List.range m).map (Pk.pay ∘ popF F m) ++ [(F 0).pay] := by
      rw [List.range_succ, List.map_append, List.map_cons, List.map_nil, pop_relic]; rfl
    have l2 : (List.range (m + 1)).map (fun i => (F i).pay) = (F 0).pay :: (List.range m).map (Pk.pay ∘ fun i => F (i + 1)) := by
      rw [List.range_succ_eq_map, List.map_cons, List.map_map]; rfl
    rw [l1, l2]
    exact (q.append_right _).trans (List.perm_append_comm (l₂ := [(F 0).pay]))
  refine ⟨?_, h.hbge, h.gbge, h.hne, by omega, hA.hcell, hA.heap, ?_, ?_, pop_ord h.ord, ?_⟩
  · refine h.bel.trans ⟨hA.os, hA.tape, hA.output, hA.size, fun j hj => hA.block j (by omega) (by have := h.gbge; omega) (by have := h.hbge; omega)⟩
  · intro t ht
    obtain ⟨i, hi, rfl⟩ := List.mem_map.1 (PP.mem_iff.1 ht)
    rw [List.mem_range] at hi
    have q := h.at hi
    exact ⟨q.1.of_block fun x hx => hA.block _ (q.1.lt x hx) (q.1.not46 h.heap x hx) (q.1.not43 h.hcell x hx), q.2⟩
  · rw [PP.pairwise_iff Apart.symm]; exact h.dist
  · have q := (pop_perm F m).map (cont zb)
    rw [List.map_map, List.map_map] at q
    refine q.trans ?_
    have r := h.perm.trans hp
    have l2 : (List.range (m + 1)).map (fun i => cont zb (F i)) = cont zb (F 0) :: (List.range m).map (cont zb ∘ fun i => F (i + 1)) := by
      rw [List.range_succ_eq_map, List.map_cons, List.map_map]; rfl
    rw [l2] at r
    exact r.cons_inv

/-- The root comes first. -/
theorem ord_root {F : Nat → Pk} {k : Nat} (h : Ord F k) : ∀ i, i < k → (F 0).seq ≤ (F i).seq := by
  intro i
  induction i using Nat.strongRecOn with
  | ind i ih =>
    intro hi
    by_cases e : i = 0
    · subst e; exact Int.le_refl _
    · have := ih ((i - 1) / 2) (by omega) (by omega)
      have := h i hi (by omega)
      omega
theorem HI.least {w9 W : World} {HB GB n k : Nat} {F : Nat → Pk} {zb : Nat → Nat → Int} {cs : List Cont} (h : HI w9 W HB GB n k F zb cs) {c : Cont} (hc : c ∈ cs) : (F 0).seq ≤ c.1 := by
  obtain ⟨i, hi, e⟩ := List.mem_map.1 (h.perm.mem_iff.2 hc)
  rw [List.mem_range] at hi
  have := ord_root h.ord i hi
  rw [← e]; exact this
theorem HI.root {w9 W : World} {HB GB n m : Nat} {F : Nat → Pk} {zb : Nat → Nat → Int} {cs : List Cont} (h : HI w9 W HB GB n (m + 1) F zb cs) : cont zb (F 0) ∈ cs :=
  h.perm.mem_iff.1 (List.mem_map.2 ⟨0, List.mem_range.2 (by omega), rfl⟩)

end Go.Proofs.Qxb6605570a
