import Derived.Test.Qxb6605570aHi
namespace Go.Proofs.Qxb6605570a
open Go.RowKit

theorem pick_perm : ∀ (lv : List Nat) (a m : Nat), lv.length = m + 1 → a ≤ m → lv.Perm (lv.getD a 0 :: (lv.set a (lv.getD m 0)).take m) := by
  intro lv
  induction lv with
  | nil => intro a m h; simp at h
  | cons y tl ih =>
    intro a m h ha
    cases m with
    | zero =>
      have : a = 0 := by omega
      subst this
      have : tl = [] := List.eq_nil_of_length_eq_zero (by simpa using h)
      subst this
      exact List.Perm.refl _
    | succ m =>
      have hl : tl.length = m + 1 := by simpa using h
      cases a with
      | zero =>
        show (y :: tl).Perm (y :: (tl.getD m 0 :: tl.take m))
        refine List.Perm.cons _ ?_
        have e : tl = tl.take m ++ [tl.getD m 0] := by
          conv => lhs; rw [← List.take_append_drop m tl]
          congr 1
          rw [List.drop_eq_getElem_cons (by omega), List.drop_eq_nil_of_le (by omega), List.getD_eq_getElem?_getD, List.getElem?_eq_getElem (by omega)]
          rfl
        conv => lhs; rw [e]
        exact List.perm_append_comm (l₂ := [tl.getD m 0])
      | succ a =>
        show (y :: tl).Perm (tl.getD a 0 :: (y :: (tl.set a (tl.getD m 0)).take m))
        exact ((ih a m hl (by omega)).cons y).trans (List.Perm.swap _ _ _)

theorem isB_iff2 (s1 t1 : Int) (m1 : Bool) (z1 : Int) (l1 : Nat) (f : Nat → Int) (s2 t2 : Int) (m2 : Bool) (z2 : Int) (l2 : Nat) (g : Nat → Int) :
    isB s1 t1 m1 z1 l1 f s2 t2 m2 z2 l2 g = true ↔ ((s1, t1, m1, z1, (List.range l1).map f) : Cont) = (s2, t2, m2, z2, (List.range l2).map g) := by
  unfold isB
  rw [Bool.and_eq_true, decide_eq_true_iff, eqB_iff]
  simp only [Prod.mk.injEq]
  constructor
  · rintro ⟨⟨a, b, c, d⟩, e⟩; exact ⟨a, b, c, d, e⟩
  · rintro ⟨a, b, c, d, e⟩; exact ⟨⟨a, b, c, d⟩, e⟩

theorem made_at (z : Array Value) (n i : Nat) (hi : i < n) : (madeCells z n)[i]? = some (z[i % z.size]!) := by
  unfold madeCells
  rw [Array.getElem?_map, Array.getElem?_range, if_pos hi]; rfl
theorem made46 (n j : Nat) (hj : j < n) : (madeCells #[.int .i64 0, .int .u32 0, .bool false, .int .i64 0, .slice none 0 0] n)[j]? = some (hc (fun _ => zPk) j) := by
  rw [made_at _ _ _ hj]
  obtain ⟨d, q, hd, rfl⟩ : ∃ d q, d < 5 ∧ j = 5 * q + d := ⟨j % 5, j / 5, by omega, by omega⟩
  rw [hc_at _ _ _ hd]
  have e : (5 * q + d) % (#[Value.int .i64 0, Value.int .u32 0, Value.bool false, Value.int .i64 0, Value.slice none 0 0] : Array Value).size = d := by
    show (5 * q + d) % 5 = d
    omega
  rw [e]
  rcases (show d = 0 ∨ d = 1 ∨ d = 2 ∨ d = 3 ∨ d = 4 by omega) with rfl | rfl | rfl | rfl | rfl <;> rfl

/-- make(seqHeap, 0, n): a block of zero packets. -/
theorem wpList_make_heap (w : World) {ops : Array Oper} {rest : List Oper} {o : Oper} {a : Act} {Q : Exit → Act → World → Prop}
    (hg : o.guard = none) (l c : Operand) (hop : o.op = Op.makeSlice 43 l c) (kl kc : IntKind) (n : Nat) (hn : n ≤ 4096) (hl : a.eval l = .int kl 0) (hc' : a.eval c = .int kc (n : Int))
    (hK : ∀ w', BlkTo w' 46 w.heap.size (5 * n) (5 * n) (hc fun _ => zPk) → Below w.heap.size w w' → wpList Try.prog ops Q rest (a.put o.dst (.slice (some ⟨w.heap.size, 0, none⟩) 0 n)) w') :
    wpList Try.prog ops Q (o :: rest) a w := by
  obtain ⟨i, hi, hz0, hz1, hz2⟩ := info_parts Try.info46
  refine wpList_plain hg fun K hK' => ?_
  have hrun := run_make (P := Try.prog) w 43 46 i _ Try.underlying43 hi hz0 kl kc 0 (n : Int) (by omega) (by omega) (by rw [hz2]; omega) (by omega)
  unfold Oper.wp
  simp [execOp, hop, hl, hc', hrun, Result.andThen]
  refine hK' _ _ (hK _ ⟨_, heap_alloc_new w _, ?_, ?_⟩ ((Below.refl _ _).alloc (Nat.le_refl _) _))
  · rw [size_madeCells, hz1]; omega
  · intro j hj
    rw [hz1]
    exact made46 _ _ (by omega)

theorem BlkTo.of_own1 {w : World} {base e g n : Nat} {xs : List Value} {f : Nat → Value} (h : w.ownsRow base e 1 (.slice (some ⟨g, 0, none⟩) 0 n) 0 xs) : BlkTo w e g n 0 f := by
  rcases h.2 with ⟨h1, _⟩ | ⟨g', cap, cur, h1, _, h2, _, _, h3, _⟩
  · cases h1
  · cases h1
    exact ⟨cur, h2, by omega, fun i hi => by omega⟩

/-- The live list's cells. -/
def lvc (lv : List Nat) (a : Nat) : Value := .int .i64 ((lv.getD a 0 : Nat) : Int)

theorem own_of_live {w : World} {g n : Nat} {lv : List Nat} (h : BlkTo w 3 g n lv.length (lvc lv)) (hn : lv.length ≤ n) (hm : n ≤ maxLen) : w.ownsRow 0 3 1 (.slice (some ⟨g, 0, none⟩) lv.length n) lv.length (lv.map fun a => .int .i64 ((a : Nat) : Int)) := by
  obtain ⟨cur, h1, h2, h3⟩ := h
  refine ⟨by simp, Or.inr ⟨g, n, cur, rfl, Nat.zero_le _, h1, hn, hm, by omega, ?_⟩⟩
  apply List.ext_getElem?
  intro i
  by_cases hi : i < lv.length
  · rw [List.getElem?_take, if_pos (by omega), List.getElem?_map, List.getElem?_eq_getElem hi]
    have := h3 i hi
    rw [Array.getElem?_toList, this]
    unfold lvc
    rw [List.getD_eq_getElem?_getD, List.getElem?_eq_getElem hi]; rfl
  · rw [List.getElem?_eq_none (by simp; omega), List.getElem?_eq_none (by simp; omega)]
theorem live_of_own {w : World} {base g n : Nat} {lv : List Nat} (h : w.ownsRow base 3 1 (.slice (some ⟨g, 0, none⟩) lv.length n) lv.length (lv.map fun a => .int .i64 ((a : Nat) : Int))) : BlkTo w 3 g n lv.length (lvc lv) := by
  rcases h.2 with ⟨h1, _⟩ | ⟨g', cap, cur, h1, _, h2, _, _, h3, h4⟩
  · cases h1
  · cases h1
    refine ⟨cur, h2, by omega, fun i hi => ?_⟩
    have e1 : (cur.toList.take (lv.length * 1))[i]? = cur[i]? := by
      rw [List.getElem?_take]; simp [hi]
    rw [← e1, h4, List.getElem?_map, List.getElem?_eq_getElem hi]
    unfold lvc
    rw [List.getD_eq_getElem?_getD, List.getElem?_eq_getElem hi]; rfl

/-- The clones. -/
structure Clo (W : World) (g0 g1 g2 g3 g4 l0 l1 l2 l3 l4 : Nat) (S T : Nat → Int) (M : Nat → Bool) (Z : Nat → Int) (A : Nat → Option Addr) (L C : Nat → Nat) (z : Nat → Nat → Int) : Prop where
  k0 : BlkTo W 2 g0 l0 l0 fun i => .int .i64 (S i)
  k1 : BlkTo W 32 g1 l1 l1 fun i => .int .u32 (T i)
  k2 : BlkTo W 4 g2 l2 l2 fun i => .bool (M i)
  k3 : BlkTo W 3 g3 l3 l3 fun i => .int .i64 (Z i)
  k4 : BlkTo W 35 g4 l4 l4 fun i => .slice (A i) (L i) (C i)
  rows : Rows2 W l4 A L C z

theorem Clo.below {W W' : World} {g0 g1 g2 g3 g4 l0 l1 l2 l3 l4 : Nat} {S T : Nat → Int} {M : Nat → Bool} {Z : Nat → Int} {A : Nat → Option Addr} {L C : Nat → Nat} {z : Nat → Nat → Int} (h : Clo W g0 g1 g2 g3 g4 l0 l1 l2 l3 l4 S T M Z A L C z) (hB : Below W.heap.size W W') : Clo W' g0 g1 g2 g3 g4 l0 l1 l2 l3 l4 S T M Z A L C z :=
  ⟨h.k0.below hB h.k0.lt, h.k1.below hB h.k1.lt, h.k2.below hB h.k2.lt, h.k3.below hB h.k3.lt, h.k4.below hB h.k4.lt, h.rows.below hB⟩

/-- What the script's loop keeps. -/
structure SI (w9 wr : World) (HB GB GL n : Nat) (cf : Nat → Cont) (lv : List Nat) (F : Nat → Pk) (zb : Nat → Nat → Int) : Prop where
  hi : HI w9 wr HB GB n lv.length F zb (lv.map cf)
  live : BlkTo wr 3 GL n lv.length (lvc lv)
  mem : ∀ a ∈ lv, a < n
  glge : w9.heap.size ≤ GL

theorem SI.below {w9 wr W : World} {HB GB GL n : Nat} {cf : Nat → Cont} {lv : List Nat} {F : Nat → Pk} {zb : Nat → Nat → Int} (h : SI w9 wr HB GB GL n cf lv F zb) (hb : Below wr.heap.size wr W) : SI w9 W HB GB GL n cf lv F zb :=
  ⟨h.hi.below hb, h.live.below hb h.live.lt, h.mem, h.glge⟩
theorem BlkTo.ne_of {w : World} {e e' g g' n n' k k' : Nat} {f f' : Nat → Value} (h : BlkTo w e g n k f) (h' : BlkTo w e' g' n' k' f') (hne : e ≠ e') : g ≠ g' := by
  intro x
  subst x
  obtain ⟨c1, a1, _⟩ := h
  obtain ⟨c2, a2, _⟩ := h'
  rw [a1] at a2
  cases a2
  exact hne rfl
theorem Lies.ne_of {w : World} {e e' g g' n' k' : Nat} {cs : Array Value} {f' : Nat → Value} (h : Lies w g cs e) (h' : BlkTo w e' g' n' k' f') (hne : e ≠ e') : g ≠ g' := by
  intro x
  subst x
  obtain ⟨c2, a2, _⟩ := h'
  unfold Lies at h
  rw [h] at a2
  cases a2
  exact hne rfl
theorem PayOwn.ne_of {w : World} {pa : Option Addr} {pl pc e' g' n' k' : Nat} {zf : Nat → Int} {f' : Nat → Value} (h : PayOwn w pa pl pc zf) (h' : BlkTo w e' g' n' k' f') (hne : (5 : Nat) ≠ e') : ∀ x, pa = some x → x.block ≠ g' := by
  intro x hx
  rcases h with ⟨h1, _⟩ | ⟨b, h1, _, _, h4⟩
  · rw [h1] at hx; cases hx
  · rw [h1] at hx; cases hx
    exact h4.ne_of h' hne

/-- The live list is written: the heap is as it was. -/
theorem HI.liveFar {w9 wr W : World} {HB GB GL n : Nat} {F : Nat → Pk} {zb : Nat → Nat → Int} {k : Nat} {cs : List Cont} (h : HI w9 wr HB GB n k F zb cs) {m : Nat} {g : Nat → Value} (hl : BlkTo wr 3 GL n m g) (bel : Below w9.heap.size w9 W)
    (hb : ∀ j, j < wr.heap.size → j ≠ GL → W.heap[j]? = wr.heap[j]?) : HI w9 W HB GB n k F zb cs :=
  h.far GL bel (fun e => h.hcell.ne_of hl (by decide) e.symm) (fun e => h.heap.ne_of hl (by decide) e.symm) (fun i hi x hx => (h.at hi).1.ne_of hl (by decide) x hx) hb

end Go.Proofs.Qxb6605570a
