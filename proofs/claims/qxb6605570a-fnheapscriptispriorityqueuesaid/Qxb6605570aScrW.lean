import Derived.Test.Qxb6605570aScr
import Derived.Test.Qxb6605570aScrB
namespace Go.Proofs.Qxb6605570a
open Go.RowKit

theorem OwnS.form {w : World} {B : Nat} {e : TypeId} {v : Value} {n : Nat} {f : Nat → Value} (h : OwnS w B e v n f) : ∃ a c, v = .slice a n c ∧ (0 < n → ∃ g, a = some ⟨g, 0, none⟩ ∧ c = n ∧ BlkTo w e g n n f) := by
  rcases h with ⟨rfl, a, c, rfl⟩ | ⟨g, rfl, _, h⟩
  · exact ⟨a, c, rfl, fun h => by omega⟩
  · exact ⟨_, _, rfl, fun _ => ⟨g, rfl, rfl, h⟩⟩

/-- The loop's relation. -/
def ScrRel (w9 : World) (HB GB GL n lo : Nat) (cf : Nat → Cont) (x15 x16 x17 : Value) (wr : World) : Prop :=
  ∃ (s nx : Nat) (lv : List Nat) (F : Nat → Pk) (zb : Nat → Nat → Int), s ≤ lo + n ∧ nx ≤ n ∧ lv.length ≤ nx ∧ lv.length + (s - lo) ≤ n ∧ x15 = .slice (some ⟨GL, 0, none⟩) lv.length n ∧ x16 = .int .i64 nx ∧ x17 = .int .i64 s ∧ Hid (SI w9 wr HB GB GL n cf lv F zb)
/-- The test of the script's step. -/
def TestRel (wr : World) (s lo : Nat) (x : Value) (wd : World) : Prop := ∃ b : Bool, x = .bool b ∧ (b = true → s < lo) ∧ wd = wr

theorem si_start (w9 : World) (n : Nat) (HB GB GL : Nat) (cf : Nat → Cont) (wr : World) (bel : Below w9.heap.size w9 wr) (h1 : w9.heap.size ≤ HB) (h2 : w9.heap.size ≤ GB) (h3 : w9.heap.size ≤ GL) (hne : HB ≠ GB)
    (hv : Lies wr HB #[.slice (some ⟨GB, 0, none⟩) 0 n] 43) (y : BlkTo wr 46 GB (5 * n) (5 * n) (hc fun _ => zPk)) (l : BlkTo wr 3 GL n 0 (lvc [])) : SI w9 wr HB GB GL n cf [] (fun _ => zPk) (fun _ _ => 0) := by
  refine ⟨⟨bel, h1, h2, hne, Nat.zero_le _, hv, y, ?_, ?_, fun j hj => by simp at hj, List.Perm.refl _⟩, l, fun a ha => by simp at ha, h3⟩
  · intro t ht
    obtain ⟨i, _, rfl⟩ := List.mem_map.1 ht
    exact ⟨Or.inl ⟨rfl, rfl, rfl⟩, fun b hb => by cases hb⟩
  · rw [pairs_iff]
    intro i j _ _ _
    exact Or.inl rfl

theorem PayOwn.neL {w : World} {pa : Option Addr} {pl pc R : Nat} {zf : Nat → Int} {cs : Array Value} (h : PayOwn w pa pl pc zf) (y : Lies w R cs 46) : ∀ x, pa = some x → x.block ≠ R := by
  intro x hx e
  rcases h with ⟨h1, _⟩ | ⟨b, h1, _, _, h4⟩
  · rw [h1] at hx; cases hx
  · rw [h1] at hx; cases hx
    exact y.ne_of h4 (by decide) e.symm

theorem below_set5 {B R : Nat} {a w : World} (h : Below B a w) (hR : B ≤ R) (v0 v1 v2 v3 v4 : Value) :
    Below B a (((((w.setCell ⟨R, 0, none⟩ v0).setCell ⟨R, 1, none⟩ v1).setCell ⟨R, 2, none⟩ v2).setCell ⟨R, 3, none⟩ v3).setCell ⟨R, 4, none⟩ v4) :=
  ((((h.setCell (p := ⟨R, 0, none⟩) hR v0).setCell (p := ⟨R, 1, none⟩) hR v1).setCell (p := ⟨R, 2, none⟩) hR v2).setCell (p := ⟨R, 3, none⟩) hR v3).setCell (p := ⟨R, 4, none⟩) hR v4
theorem one_new (w : World) (v : Value) (e : TypeId) : ∀ j u, [v][j]? = some u → (w.alloc (.cells #[v] e)).cell? ((⟨w.heap.size, 0, none⟩ : Addr).add j) = some u := by
  intro j u hu
  rw [show (⟨w.heap.size, 0, none⟩ : Addr).add j = ⟨w.heap.size, j, none⟩ from by unfold Addr.add; split <;> simp_all, cell_of_row _ w.heap.size j _ e (0, 0) (heap_alloc_new w _)]
  simpa using hu
/-- The pushed packet's number is laid into the live list. -/
theorem si_pushed {w9 w6 w7 : World} {HB GB GL n nx : Nat} {F : Nat → Pk} {zb : Nat → Nat → Int} {lv : List Nat} {cf : Nat → Cont} (hi : HI w9 w6 HB GB n (lv.length + 1) F zb (cf nx :: lv.map cf)) (hl : BlkTo w6 3 GL n lv.length (lvc lv)) (hm : ∀ a ∈ lv, a < n) (hg : w9.heap.size ≤ GL) (hnx : nx < n) {o : Obj}
    (hown : w7.ownsRow 0 3 1 (.slice (some ⟨GL, 0, none⟩) (lv.length + 1) n) (lv.length + 1) ((lv.map fun a => .int .i64 ((a : Nat) : Int)) ++ [.int .i64 (nx : Int)])) (hgr : (w6.alloc o).grownBy w7 (some GL)) :
    SI w9 w7 HB GB GL n cf (lv ++ [nx]) F zb := by
  have hb : ∀ j, j < w6.heap.size → j ≠ GL → w7.heap[j]? = w6.heap[j]? := fun j hj hne => by
    rw [hgr.block j (by simp; omega) (fun e => hne (Option.some.inj e)), Below.heap_alloc _ _ _ hj]
  have s0 := hi.bel.size
  have bel : Below w9.heap.size w9 w7 := (hi.bel.alloc s0 o).grown hgr (by simp; omega) (fun k hk => by cases hk; exact hg)
  have e1 : (lv ++ [nx]).length = lv.length + 1 := by simp
  have h7 := hi.liveFar hl bel hb
  refine ⟨?_, ?_, ?_, hg⟩
  · rw [e1]
    refine h7.cs ?_
    rw [List.map_append]
    exact List.perm_append_comm (l₁ := [cf nx])
  · apply live_of_own (base := 0)
    rw [e1, List.map_append]
    exact hown
  · intro a ha
    rcases List.mem_append.1 ha with q | q
    · exact hm a q
    · rw [List.mem_singleton] at q; omega

/-- A box that was laid ahead of the push, or between. -/
theorem below_iii {wr w2 : World} {cs : Array Value} (hb2 : Below (wr.alloc (.cells cs 46)).drew.heap.size (wr.alloc (.cells cs 46)).drew w2) : Below wr.heap.size wr w2 := by
  have h : Below wr.heap.size wr (wr.alloc (.cells cs 46)).drew := ((Below.refl _ _).alloc (Nat.le_refl _) _).drew
  exact h.trans (hb2.mono h.size)
theorem lies_iii {wr w2 : World} {cs : Array Value} (hb2 : Below (wr.alloc (.cells cs 46)).drew.heap.size (wr.alloc (.cells cs 46)).drew w2) : Lies w2 wr.heap.size cs 46 := by
  have h : Lies (wr.alloc (.cells cs 46)).drew wr.heap.size cs 46 := Lies.new wr cs 46
  exact h.of_block (hb2.block _ h.lt)
theorem box_ii {wr w2 w5 : World} {cs : Array Value} (hb3 : Below wr.heap.size wr w2) (far : ∀ R, wr.heap.size ≤ R → R < (w2.alloc (.cells cs 46)).heap.size → w5.heap[R]? = (w2.alloc (.cells cs 46)).heap[R]?) : Lies w5 w2.heap.size cs 46 :=
  (Lies.new w2 cs 46).of_block (far _ hb3.size (by simp))
theorem box_iii {wr w2 w5 : World} {cs : Array Value} (bx : Lies w2 wr.heap.size cs 46) (far : ∀ R, wr.heap.size ≤ R → R < w2.heap.size → w5.heap[R]? = w2.heap[R]?) : Lies w5 wr.heap.size cs 46 :=
  bx.of_block (far _ (Nat.le_refl _) bx.lt)

/-- What holds behind the push of packet nx, its answer in box R. -/
structure Pushed (w9 wd : World) (HB GB GL n k R : Nat) (F : Nat → Pk) (zb : Nat → Nat → Int) (p : Pk) (zf : Nat → Int) (lv : List Nat) (cs : List Cont) : Prop where
  hi : HI w9 wd HB GB n (k + 1) F zb cs
  pay : PayOwn wd p.pa p.pl p.pc zf
  live : BlkTo wd 3 GL n k (lvc lv)
  box : Lies wd R p.arr 46

theorem box_new {w9 w5 : World} {HB GB GL n k : Nat} {F : Nat → Pk} {zb : Nat → Nat → Int} (p : Pk) {zf : Nat → Int} {lv : List Nat} {cs : List Cont} (hi : HI w9 w5 HB GB n (k + 1) F zb cs) (pay : PayOwn w5 p.pa p.pl p.pc zf) (live : BlkTo w5 3 GL n k (lvc lv)) :
    Pushed w9 (w5.alloc (.cells p.arr 46)) HB GB GL n k w5.heap.size F zb p zf lv cs := by
  have B : Below w5.heap.size w5 (w5.alloc (.cells p.arr 46)) := (Below.refl _ _).alloc (Nat.le_refl _) _
  exact ⟨hi.below B, pay.of_block (fun x hx => B.block _ (pay.lt x hx)), live.alloc _, Lies.new _ _ _⟩
theorem Lies.set5 {w : World} {R : Nat} {q p : Pk} (h : Lies w R q.arr 46) : Lies (w.setCells R 0 p.cs) R p.arr 46 := by
  unfold Lies at h ⊢
  unfold Pk.cs
  rw [setCells_five]
  simp only [World.setCell, Array.getElem?_modify]
  rw [if_pos trivial, if_pos trivial, if_pos trivial, if_pos trivial, if_pos trivial, h]; rfl
theorem box_set {w9 w5 : World} {HB GB GL n k R : Nat} {F : Nat → Pk} {zb : Nat → Nat → Int} (p q : Pk) {zf : Nat → Int} {lv : List Nat} {cs : List Cont} (hi : HI w9 w5 HB GB n (k + 1) F zb cs) (pay : PayOwn w5 p.pa p.pl p.pc zf) (live : BlkTo w5 3 GL n k (lvc lv)) (bx : Lies w5 R q.arr 46) (hR : w9.heap.size ≤ R) (hG : R ≠ GB) :
    Pushed w9 (w5.setCells R 0 p.cs) HB GB GL n k R F zb p zf lv cs := by
  have e5 := setCells_block w5 R 0 p.cs
  have e4 := setCells_size w5 R 0 p.cs
  have bel : Below w9.heap.size w9 (w5.setCells R 0 p.cs) := below_setCells hi.bel hR _ _
  have b := bx.set5 (p := p)
  generalize w5.setCells R 0 p.cs = W at *
  refine ⟨hi.far R bel ?_ hG ?_ (fun j _ hj => e5 j hj), pay.of_block (fun x hx => e5 _ (pay.neL bx x hx)), live.of_block (e5 _ ?_), b⟩
  · intro e
    subst e
    have h1 := hi.hcell
    unfold Lies at h1 bx
    rw [h1] at bx
    cases bx
  · intro i hi2 x hx
    exact (hi.at hi2).1.neL bx x hx
  · intro e
    exact bx.ne_of live (by decide) e.symm

theorem script_push {w9 wr : World} {g0 g1 g2 g3 g4 l0 l1 l2 l3 l4 n k nx HB GB GL : Nat} {S T : Nat → Int} {M : Nat → Bool} {Z : Nat → Int} {A : Nat → Option Addr} {L C : Nat → Nat} {z : Nat → Nat → Int} {F : Nat → Pk} {zb : Nat → Nat → Int} {lv : List Nat} {cs : List Cont}
    (cl : Clo w9 g0 g1 g2 g3 g4 l0 l1 l2 l3 l4 S T M Z A L C z) (h : HI w9 wr HB GB n k F zb cs) (hl : BlkTo wr 3 GL n k (lvc lv)) (hk : k < n) (n4 : n ≤ l4) (hnl : nx < n) (hL : ∀ i, i < l4 → L i ≤ 1048576) (hn : n ≤ 4096) :
    ∀ W : World, Below wr.heap.size wr W → Calls Try.prog 21 #[.pointer (some ⟨HB, 0, none⟩), .agg #[.int .i64 (S nx), .int .u32 (T nx), .bool (M nx), .int .i64 (Z nx), .slice (A nx) (L nx) (C nx)]] W fun e w' =>
      ∃ a' c' F' zb', e = .returned (.agg #[.int .i64 (S nx), .int .u32 (T nx), .bool (M nx), .int .i64 (Z nx), .slice a' (L nx) c']) ∧ HI w9 w' HB GB n (k + 1) F' zb' (ct S T M Z L z nx :: cs) ∧ PayOwn w' a' (L nx) c' (z nx) ∧ BlkTo w' 3 GL n k (lvc lv) ∧ ∀ R, wr.heap.size ≤ R → R < W.heap.size → w'.heap[R]? = W.heap[R]? := by
  intro W hW
  have hi := h.below hW
  have hl2 := hl.below hW hl.lt
  have q := (hi.at hk).1
  refine Calls.mono (zzpush_room HB GB k n F ⟨S nx, T nx, M nx, Z nx, A nx, L nx, C nx⟩ (z nx) (zbOf zb (F k).pa) W hk hn hi.hne hi.hcell hi.heap q ((cl.rows nx (by omega)).below hi.bel) (hL nx (by omega))) ?_
  rintro e w' ⟨a', c', rfl, hE⟩
  obtain ⟨zb', h2⟩ := hi.push hk hE
  refine ⟨a', c', _, zb', rfl, h2, hE.pay, hl2.of_block (hE.block _ hl2.lt (fun e => hi.heap.ne_of hl2 (by decide) e.symm) (fun e => hi.hcell.ne_of hl2 (by decide) e.symm) ?_), ?_⟩
  rotate_left
  · intro R h1 h2
    have q1 := h.hcell.lt
    have q2 := h.heap.lt
    refine hE.block R h2 (by omega) (by omega) (fun e => ?_)
    cases hpa : (F k).pa with
    | none => rw [hpa] at e; cases e
    | some x =>
      rw [hpa] at e
      cases e
      have h3 := (h.at hk).1.lt x hpa
      have h4 : wr.heap.size ≤ x.block := h1
      omega
  intro e
  cases hpa : (F k).pa with
  | none => rw [hpa] at e; cases e
  | some x => rw [hpa] at e; cases e; exact q.ne_of hl2 (by decide) x hpa rfl

/-- What holds behind the pop, its answer q in box R. -/
structure Popd (w9 wd : World) (HB GB GL n m R : Nat) (q : Pk) (F : Nat → Pk) (zb : Nat → Nat → Int) (lv : List Nat) (cs : List Cont) : Prop where
  bel : Below w9.heap.size w9 wd
  hi : ∀ cs', cs.Perm (cont zb q :: cs') → HI w9 wd HB GB n m F zb cs'
  pay : PayOwn wd q.pa q.pl q.pc (zbOf zb q.pa)
  live : BlkTo wd 3 GL n (m + 1) (lvc lv)
  box : Lies wd R q.arr 46

theorem Popd.below {w9 wd W : World} {HB GB GL n m R : Nat} {q : Pk} {F : Nat → Pk} {zb : Nat → Nat → Int} {lv : List Nat} {cs : List Cont} (h : Popd w9 wd HB GB GL n m R q F zb lv cs) (hb : Below wd.heap.size wd W) : Popd w9 W HB GB GL n m R q F zb lv cs :=
  ⟨h.bel.trans (hb.mono h.bel.size), fun cs' hp => (h.hi cs' hp).below hb, h.pay.of_block (fun x hx => hb.block _ (h.pay.lt x hx)), h.live.below hb h.live.lt, h.box.of_block (hb.block _ h.box.lt)⟩

theorem popd_start {w9 wr w1 : World} {HB GB GL n m : Nat} {F : Nat → Pk} {zb : Nat → Nat → Int} {lv : List Nat} {cs : List Cont} (h : HI w9 wr HB GB n (m + 1) F zb cs) (hl : BlkTo wr 3 GL n (m + 1) (lvc lv))
    (hA : After wr w1 HB GB n (.slice (some ⟨GB, 0, none⟩) m n) (popF F m)) : Popd w9 (w1.alloc (.cells (F 0).arr 46)) HB GB GL n m w1.heap.size (F 0) (popF F m) zb lv cs := by
  have q := (h.at (show 0 < n by have := h.kn; omega)).1
  have B : Below w1.heap.size w1 (w1.alloc (.cells (F 0).arr 46)) := (Below.refl _ _).alloc (Nat.le_refl _) _
  have p1 : PayOwn w1 (F 0).pa (F 0).pl (F 0).pc (zbOf zb (F 0).pa) := q.of_block fun x hx => hA.block _ (q.lt x hx) (q.not46 h.heap x hx) (q.not43 h.hcell x hx)
  have l1 : BlkTo w1 3 GL n (m + 1) (lvc lv) := hl.of_block (hA.block _ hl.lt (fun e => h.heap.ne_of hl (by decide) e.symm) (fun e => h.hcell.ne_of hl (by decide) e.symm))
  have hb1 : Below w9.heap.size w9 w1 := h.bel.trans (hA.below h.hbge h.gbge h.bel.size)
  exact ⟨hb1.alloc hb1.size _, fun cs' hp => (h.pop hA hp).below B, p1.of_block (fun x hx => B.block _ (p1.lt x hx)), l1.alloc _, Lies.new _ _ _⟩

theorem si_popped {w9 wr : World} {HB GB GL n m R b : Nat} {q : Pk} {F : Nat → Pk} {zb : Nat → Nat → Int} {lv : List Nat} {cf : Nat → Cont} (h : Popd w9 wr HB GB GL n m R q F zb lv (lv.map cf)) (hlen : lv.length = m + 1) (hmn : m < n) (hm : ∀ a ∈ lv, a < n) (hg : w9.heap.size ≤ GL) (hb : b < m + 1) (hc : cf (lv.getD b 0) = cont zb q) :
    SI w9 (wr.setCell ⟨GL, b, none⟩ (.int .i64 ((lv.getD m 0 : Nat) : Int))) HB GB GL n cf ((lv.set b (lv.getD m 0)).take m) F zb := by
  have hp := pick_perm lv b m hlen (by omega)
  have hi := h.hi (((lv.set b (lv.getD m 0)).take m).map cf) (by have := hp.map cf; rw [List.map_cons, hc] at this; exact this)
  have bel : Below w9.heap.size w9 (wr.setCell ⟨GL, b, none⟩ (.int .i64 ((lv.getD m 0 : Nat) : Int))) := h.bel.setCell hg _
  have e1 : ((lv.set b (lv.getD m 0)).take m).length = m := by simp; omega
  refine ⟨?_, ?_, ?_, hg⟩
  · rw [e1]
    exact hi.liveFar h.live bel (fun j _ hj => Below.heap_setCell wr ⟨GL, b, none⟩ _ j hj)
  · rw [e1]
    have q2 := h.live.putm (show m + 1 ≤ n by omega) (f' := lvc (lv.set b (lv.getD m 0))) b (.int .i64 ((lv.getD m 0 : Nat) : Int)) (by unfold lvc; rw [List.getD_eq_getElem?_getD, List.getElem?_set_self (by omega)]; rfl) (by
      intro i _ hib
      unfold lvc
      rw [List.getD_eq_getElem?_getD, List.getElem?_set_ne (fun e => hib e.symm), ← List.getD_eq_getElem?_getD])
    obtain ⟨cur, x1, x2, x3⟩ := q2
    refine ⟨cur, x1, x2, fun i hi => ?_⟩
    rw [x3 i (by omega)]
    unfold lvc
    generalize lv.set b (lv.getD m 0) = l2
    rw [show l2.getD i 0 = (l2.take m).getD i 0 from by rw [List.getD_eq_getElem?_getD, List.getD_eq_getElem?_getD, List.getElem?_take, if_pos hi]]
  · intro a ha
    exact hm a (hp.mem_iff.2 (List.mem_cons_of_mem _ ha))

/-- The loop that picks. -/
def PickRel (w3 : World) (k : Nat) (cf : Nat → Cont) (c0 : Cont) (lv : List Nat) (y x : Value) (wd : World) : Prop :=
  ∃ (a : Nat) (pk : Int), a ≤ k ∧ y = .int .i64 pk ∧ x = .int .i64 a ∧ Hid ((pk = -1 ∧ ∀ b, b < a → cf (lv.getD b 0) ≠ c0) ∨ ∃ b : Nat, b < k ∧ pk = b ∧ cf (lv.getD b 0) = c0) ∧ Hid (Below w3.heap.size w3 wd)

theorem getD_mem {lv : List Nat} {a : Nat} (h : a < lv.length) : lv.getD a 0 ∈ lv := by
  rw [List.getD_eq_getElem?_getD, List.getElem?_eq_getElem h]; exact List.getElem_mem h
theorem mem_getD {lv : List Nat} {cf : Nat → Cont} {c : Cont} (h : c ∈ lv.map cf) : ∃ b, b < lv.length ∧ cf (lv.getD b 0) = c := by
  obtain ⟨x, hx, e⟩ := List.mem_map.1 h
  obtain ⟨b, hb, e2⟩ := List.getElem_of_mem hx
  refine ⟨b, hb, ?_⟩
  rw [List.getD_eq_getElem?_getD, List.getElem?_eq_getElem hb]
  show cf lv[b] = c
  rw [e2, e]

set_option maxHeartbeats 16000000 in
set_option maxRecDepth 100000 in
theorem script_any (ao a0 a1 a2 a3 a4 : Option Addr) (lo l0 l1 l2 l3 l4 co c0 c1 c2 c3 c4 : Nat) (O : Nat → Bool) (S T : Nat → Int) (M : Nat → Bool) (Z : Nat → Int) (A : Nat → Option Addr) (L C : Nat → Nat) (z : Nat → Nat → Int) (w : World)
    (ro : RowAt w ao lo co fun i => .bool (O i)) (r0 : RowAt w a0 l0 c0 fun i => .int .i64 (S i)) (r1 : RowAt w a1 l1 c1 fun i => .int .u32 (T i)) (r2 : RowAt w a2 l2 c2 fun i => .bool (M i)) (r3 : RowAt w a3 l3 c3 fun i => .int .i64 (Z i))
    (r4 : RowAt w a4 l4 c4 fun i => .slice (A i) (L i) (C i)) (rr : Rows2 w l4 A L C z)
    (ho : lo ≤ 4096) (h0 : l0 ≤ 4096) (h1 : l1 ≤ 4096) (h2 : l2 ≤ 4096) (h3 : l3 ≤ 4096) (h4 : l4 ≤ 4096) (m0 : 0 < l0) (m1 : 0 < l1) (m2 : 0 < l2) (m3 : 0 < l3) (m4 : 0 < l4) :
    Calls Try.prog 6 #[.slice ao lo co, .slice a0 l0 c0, .slice a1 l1 c1, .slice a2 l2 c2, .slice a3 l3 c3, .slice a4 l4 c4] w fun e w' => e = .returned (.bool true) ∧ Below w.heap.size w w' := by
  obtain ⟨n, hn⟩ : ∃ n : Nat, min (min4 l0 l1 l2 l3) l4 = n := ⟨(min (min4 l0 l1 l2 l3) l4).toNat, by unfold min4; omega⟩
  have hn0 : n ≤ l0 ∧ n ≤ l1 ∧ n ≤ l2 ∧ n ≤ l3 ∧ n ≤ l4 := by unfold min4 at hn; omega
  have HN : Hid (_) := hn
  clear hn
  obtain ⟨n0, n1, n2, n3, n4⟩ := hn0
  have hL : Hid (∀ i, i < l4 → L i ≤ 2 ^ 63 - 1) := fun i hi => (rr i hi).form
  go_enter Try.func6, Try.ntmps6
  go_wp2_with fail
  refine (bytes27_any _ _ _ _ _ _ _ _ _ _ _ _ _ _ _ _ _ _ A L C w (by omega) (by omega) (by omega) (by omega) (by omega) (by omega) r4 hL.out).mono ?_
  rintro e w' ⟨⟨b, rfl, hb⟩, ew⟩
  have ew' := ew.symm
  clear ew
  subst ew'
  cases b with
  | false =>
    go_wp2
    go_ret
    exact ⟨rfl, Below.refl _ _⟩
  | true =>
    have HB : Hid (_) := hb rfl
    clear hb
    go_wp2_with fail
    refine (heapBytes_any _ _ _ _ _ _ _ _ _ _ _ _ _ _ _ A L C _ h0 h1 h2 h3 h4 r4 hL.out).mono ?_
    rintro e w2 ⟨t, rfl, ht0, ht1, ew⟩
    have ew' := ew.symm
    clear ew
    subst ew'
    by_cases htb : 1048576 < (lo : Int) + t
    · go_wp2
      go_ret
      exact ⟨rfl, Below.refl _ _⟩
    go_wp2_with fail
    refine (clone11_any ao lo co O _ (by omega) ro).mono ?_
    rintro e w4 ⟨vo, rfl, hb4, oo⟩
    go_wp2_with fail
    refine (clone9_any a0 l0 c0 S _ (by omega) (r0.below hb4)).mono ?_
    rintro e w5 ⟨v0, rfl, hb5, o0⟩
    have H5 := hb4.trans (hb5.mono hb4.size)
    go_wp2_with fail
    refine (clone10_any a1 l1 c1 T _ (by omega) (r1.below H5)).mono ?_
    rintro e w6 ⟨v1, rfl, hb6, o1⟩
    have H6 := H5.trans (hb6.mono H5.size)
    go_wp2_with fail
    refine (clone11_any a2 l2 c2 M _ (by omega) (r2.below H6)).mono ?_
    rintro e w7 ⟨v2, rfl, hb7, o2⟩
    have H7 := H6.trans (hb7.mono H6.size)
    go_wp2_with fail
    refine (clone12_any a3 l3 c3 Z _ (by omega) (r3.below H7)).mono ?_
    rintro e w8 ⟨v3, rfl, hb8, o3⟩
    have H8 := H7.trans (hb8.mono H7.size)
    go_wp2_with fail
    refine (cloneAll_any a4 l4 c4 A L C z _ h4 (r4.below H8) (rr.below H8) HB.out).mono ?_
    rintro e w9 ⟨a4', c4', rfl, hb9, o4⟩
    have H9 := H8.trans (hb9.mono H8.size)
    obtain ⟨g4, A', C', ea, ec, b4, pays⟩ := o4 m4
    subst ea
    have ec' := ec.symm
    clear ec
    subst ec'
    obtain ⟨g0, rfl, b0, k0⟩ := ((((o0.below hb6 (Nat.le_refl _)).below hb7 (Nat.le_refl _)).below hb8 (Nat.le_refl _)).below hb9 (Nat.le_refl _)).pos m0
    obtain ⟨g1, rfl, b1, k1⟩ := (((o1.below hb7 (Nat.le_refl _)).below hb8 (Nat.le_refl _)).below hb9 (Nat.le_refl _)).pos m1
    obtain ⟨g2, rfl, b2, k2⟩ := ((o2.below hb8 (Nat.le_refl _)).below hb9 (Nat.le_refl _)).pos m2
    obtain ⟨g3, rfl, b3, k3⟩ := (o3.below hb9 (Nat.le_refl _)).pos m3
    obtain ⟨ao', co', rfl, hO⟩ := (((((oo.below hb5 (Nat.le_refl _)).below hb6 (Nat.le_refl _)).below hb7 (Nat.le_refl _)).below hb8 (Nat.le_refl _)).below hb9 (Nat.le_refl _)).form
    have CL : Hid (Clo w9 g0 g1 g2 g3 g4 l0 l1 l2 l3 l4 S T M Z A' L C' z) := ⟨k0, k1, k2, k3, pays.1, fun i hi => (pays.2 i hi).1⟩
    have HO : Hid (_) := hO
    have LB : Hid (_) := HB.out
    clear HB o0 o1 o2 o3 o4 oo hb4 hb5 hb6 hb7 hb8 hb9 r0 r1 r2 r3 r4 rr ro k0 k1 k2 k3 pays hO H5 H6 H7 H8 b0 b1 b2 b3 b4 hL
    obtain ⟨i3, hi3, hz30, hz31, hz32⟩ := info_parts Try.info3
    have hn4 : n ≤ 4096 := by omega
    go_wp2_with (first | (go_at_call 16; refine (min5_any _ _ _ _ _ _).mono ?_; rintro e w3 ⟨rfl, ew⟩; have ew' := ew.symm; clear ew; subst ew'; rw [HN.out]) | (at_make; refine wpList_make_heap _ rfl _ _ rfl _ _ n hn4 rfl rfl ?_))
    intro w10 y10 hb10
    have hs10 := hb10.size
    have hgb := y10.lt
    go_wp2_with (at_make; refine wpList_make_own _ rfl _ _ 25 rfl 0 3 i3 _ 1 Try.underlying25 hi3 hz30 hz31 _ _ _ n rfl rfl rfl (by rw [hz32]; omega) (by unfold maxLen; omega) (Nat.zero_le _) ?_)
    intro w12 hown hgrow
    have ST : Hid (SI w9 w12 w10.heap.size w9.heap.size (w10.heap.size + 1) n (ct S T M Z L z) [] (fun _ => zPk) (fun _ _ => 0)) := by
      have B1 : Below w9.heap.size w9 (w10.alloc (.cells #[.slice (some ⟨w9.heap.size, 0, none⟩) 0 n] 43)) := hb10.alloc hs10 _
      have B2 : Below w9.heap.size w9 w12 := B1.grown hgrow (by simp; omega) (fun k hk => by cases hk)
      refine si_start w9 n _ _ _ _ w12 B2 hs10 (Nat.le_refl _) (by omega) (by omega) ?_ ?_ ?_
      · exact (Lies.new w10 _ 43).of_block (hgrow.block _ (by simp) (by simp))
      · exact (y10.alloc _).of_block (hgrow.block _ (by simp; omega) (by simp))
      · have := BlkTo.of_own1 (f := lvc []) hown
        simpa using this
    clear hown hgrow y10 hb10
    generalize w10.heap.size + 1 = GL at ST ⊢
    generalize w10.heap.size = HB at ST ⊢
    generalize hGB : w9.heap.size = GB at ST ⊢
    clear hGB hs10 hgb i3 hi3 hz30 hz31 hz32
    go_wp2
    go_loopw [15, 16, 17] (ScrRel w9 HB GB GL n lo (ct S T M Z L z)) (fun _ _ x _ => lo + n - (intOf x).toNat)
    case atStart => exact ⟨0, 0, [], _, _, by omega, by omega, by simp, by simp, rfl, rfl, rfl, ST⟩
    case round =>
      clear ST
      obtain ⟨s, nx, lv, F, zb, hs, hnx, hlv, hsn, rfl, rfl, rfl, HS⟩ := hrel
      obtain ⟨k, hk⟩ : ∃ k, lv.length = k := ⟨_, rfl⟩
      rw [hk] at hlv hsn ⊢
      by_cases hlt : s < lo + n
      case neg =>
        have k0 : k = 0 := by omega
        have q1 : Lies wr HB #[.slice (some ⟨GB, 0, none⟩) k n] 43 := by have := HS.out.hi.hcell; rw [hk] at this; exact this
        have c0 := q1.cell 0
        simp at c0
        subst k0
        have z1 : ((0 : Int) == 0) = true := rfl
        go_wp2
        go_ret
        exact ⟨rfl, H9.trans (HS.out.hi.bel.mono H9.size)⟩
      case pos =>
        have z1 : (s : Int) < (lo : Int) + (n : Int) := by omega
        go_upto_region 20 with fail
        go_cut [117] (TestRel wr s lo)
        case first =>
          by_cases hsl : s < lo
          · obtain ⟨go', ea, _, yo⟩ := HO.out (by omega)
            subst ea
            have c1 : wr.cell? ⟨go', s, none⟩ = some (.bool (O s)) := by rw [HS.out.hi.bel.cell yo.lt]; exact yo.cell hsl
            have z2 : (s : Int) < (lo : Int) := by omega
            go_wp2
            go_meet
            exact ⟨O s, rfl, fun _ => hsl, rfl⟩
          · have z2 : (lo : Int) ≤ (s : Int) := by omega
            go_wp2
            go_meet
            exact ⟨false, rfl, (fun h => Bool.noConfusion h), rfl⟩
        case rest =>
          obtain ⟨b, rfl, hbl, ew⟩ := hcut
          have ew' := ew.symm
          clear ew
          subst ew'
          have hi := HS.out.hi
          have hlive := HS.out.live
          rw [hk] at hi hlive
          have LIVE : Hid (_) := hlive
          have HI0 : Hid (_) := hi
          clear hi hlive
          cases b with
          | true =>
            have hsl := hbl rfl
            by_cases hnl : nx < n
            case neg =>
              have z2 : (n : Int) ≤ (nx : Int) := by omega
              go_wp2
              go_roundw
              case rel => exact ⟨s + 1, nx, lv, F, zb, by omega, hnx, by omega, by omega, by rw [hk], rfl, by go_num, HS⟩
              case measure => simp [intOf]; omega
            case pos =>
              have hkn : k < n := by omega
              have PUSH : Hid (∀ W : World, Below wr.heap.size wr W → Calls Try.prog 21 #[.pointer (some ⟨HB, 0, none⟩), .agg #[.int .i64 (S nx), .int .u32 (T nx), .bool (M nx), .int .i64 (Z nx), .slice (A' nx) (L nx) (C' nx)]] W fun e w' =>
                  ∃ a' c' F' zb', e = .returned (.agg #[.int .i64 (S nx), .int .u32 (T nx), .bool (M nx), .int .i64 (Z nx), .slice a' (L nx) c']) ∧ HI w9 w' HB GB n (k + 1) F' zb' (ct S T M Z L z nx :: lv.map (ct S T M Z L z)) ∧ PayOwn w' a' (L nx) c' (z nx) ∧ BlkTo w' 3 GL n k (lvc lv) ∧ ∀ R, wr.heap.size ≤ R → R < W.heap.size → w'.heap[R]? = W.heap[R]?) :=
                script_push CL.out HI0.out LIVE.out hkn n4 hnl LB.out hn4
              have hrr : Below wr.heap.size wr wr := Below.refl _ _
              have bel := HI0.out.bel
              have KEEP : Hid (∀ W : World, Below w9.heap.size w9 W → (W.cell? ⟨g0, nx, none⟩ = some (.int .i64 (S nx)) ∧ W.cell? ⟨g1, nx, none⟩ = some (.int .u32 (T nx)) ∧ W.cell? ⟨g2, nx, none⟩ = some (.bool (M nx)) ∧ W.cell? ⟨g3, nx, none⟩ = some (.int .i64 (Z nx)) ∧ W.cell? ⟨g4, nx, none⟩ = some (.slice (A' nx) (L nx) (C' nx)))) := fun W hW => ⟨(CL.out.below hW).k0.cell (by omega), (CL.out.below hW).k1.cell (by omega), (CL.out.below hW).k2.cell (by omega), (CL.out.below hW).k3.cell (by omega), (CL.out.below hW).k4.cell (by omega)⟩
              have z0 : (nx : Int) < (n : Int) := by omega
              have y0 : (nx : Int) < (l0 : Int) := by omega
              have y1 : (nx : Int) < (l1 : Int) := by omega
              have y2 : (nx : Int) < (l2 : Int) := by omega
              have y3 : (nx : Int) < (l3 : Int) := by omega
              have y4 : (nx : Int) < (l4 : Int) := by omega
              have hrsz : w9.heap.size ≤ wr.heap.size := bel.size
              have hGBl : GB < wr.heap.size := HI0.out.heap.lt
              go_upto_region 24 with fail
              go_cut [19] (fun x wd => ∃ R a' c' F' zb', x = .pointer (some ⟨R, 0, none⟩) ∧ Hid (Pushed w9 wd HB GB GL n k R F' zb' ⟨S nx, T nx, M nx, Z nx, a', L nx, c'⟩ (z nx) lv (ct S T M Z L z nx :: lv.map (ct S T M Z L z))))
              case first =>
                as_aux_lemma =>
                  go_region_held3 (fun W => W.cell? ⟨g0, nx, none⟩ = some (.int .i64 (S nx)) ∧ W.cell? ⟨g1, nx, none⟩ = some (.int .u32 (T nx)) ∧ W.cell? ⟨g2, nx, none⟩ = some (.bool (M nx)) ∧ W.cell? ⟨g3, nx, none⟩ = some (.int .i64 (Z nx)) ∧ W.cell? ⟨g4, nx, none⟩ = some (.slice (A' nx) (L nx) (C' nx)))
                    ((refine KEEP.out _ ?_; first | with_reducible exact hb5 | with_reducible exact Below.alloc hb5 hsz5 _ | with_reducible exact hbB | with_reducible exact Below.alloc hbB hszB _ | with_reducible exact bel.drew | with_reducible exact (Below.alloc bel hrsz _).drew | with_reducible exact below_set5 hb5 hR5 _ _ _ _ _))
                    (first
                      | (go_at_call 22; refine (make_any _ _ _ _ _ _ _ _).mono ?_; rintro e w2 ⟨rfl, hb2⟩; (first
                          | (have hb3 : Below wr.heap.size wr w2 := hrr.drew.trans (hb2.mono (Nat.le_refl _)))
                          | (have hb3 : Below wr.heap.size wr w2 := below_iii hb2; have bx2 : Lies w2 wr.heap.size zPk.arr 46 := lies_iii hb2)); have hbB : Below w9.heap.size w9 w2 := bel.trans (hb3.mono bel.size); have hszB := hbB.size)
                      | (go_at_call 21; refine Calls.mono (PUSH.out _ ?_) ?_; (first | exact hb3 | exact hb3.alloc hb3.size _); rintro e w5 ⟨a', c', F', zb', rfl, hi5, pay5, live5, far5⟩; have hb5 := hi5.bel; have hsz5 := hb5.size; (first
                          | (have bx5 : Lies w5 w2.heap.size zPk.arr 46 := box_ii hb3 far5; have hR5 : w9.heap.size ≤ w2.heap.size := hszB; have hRG : w2.heap.size ≠ GB := Nat.ne_of_gt (Nat.lt_of_lt_of_le hGBl hb3.size); have r0 := bx5.pk; have fr5 := bx5.frozen)
                          | (have bx5 : Lies w5 wr.heap.size zPk.arr 46 := box_iii bx2 far5; have hR5 : w9.heap.size ≤ wr.heap.size := hrsz; have hRG : wr.heap.size ≠ GB := Nat.ne_of_gt hGBl; have r0 := bx5.pk; have fr5 := bx5.frozen)
                          | skip)))
                  all_goals
                    go_wp2
                    go_meet
                    first
                      | exact ⟨_, a', c', F', zb', rfl, box_new ⟨S nx, T nx, M nx, Z nx, a', L nx, c'⟩ hi5 pay5 live5⟩
                      | exact ⟨_, a', c', F', zb', rfl, box_set ⟨S nx, T nx, M nx, Z nx, a', L nx, c'⟩ zPk hi5 pay5 live5 bx5 hR5 hRG⟩
              case rest =>
                as_aux_lemma =>
                  obtain ⟨R, a', c', F', zb', rfl, HP⟩ := hcut
                  clear PUSH KEEP HI0 LIVE hrsz hGBl hrr bel
                  have hcc : Below wc.heap.size wc wc := Below.refl _ _
                  have bel : Below w9.heap.size w9 wc := HP.out.hi.bel
                  have KEEP : Hid (∀ W : World, Below wc.heap.size wc W → ((W.cell? ⟨R, 0, none⟩ = some (.int .i64 (S nx)) ∧ W.cell? ⟨R, 1, none⟩ = some (.int .u32 (T nx)) ∧ W.cell? ⟨R, 2, none⟩ = some (.bool (M nx)) ∧ W.cell? ⟨R, 3, none⟩ = some (.int .i64 (Z nx)) ∧ W.cell? ⟨R, 4, none⟩ = some (.slice a' (L nx) c')) ∧ W.cell? ⟨g0, nx, none⟩ = some (.int .i64 (S nx)) ∧ W.cell? ⟨g1, nx, none⟩ = some (.int .u32 (T nx)) ∧ W.cell? ⟨g2, nx, none⟩ = some (.bool (M nx)) ∧ W.cell? ⟨g3, nx, none⟩ = some (.int .i64 (Z nx)) ∧ W.cell? ⟨g4, nx, none⟩ = some (.slice (A' nx) (L nx) (C' nx)))) := fun W hW => by
                    have b := CL.out.below (bel.trans (hW.mono bel.size))
                    have q := (HP.out.box.of_block (hW.block _ HP.out.box.lt)).pk
                    exact ⟨q, b.k0.cell (by omega), b.k1.cell (by omega), b.k2.cell (by omega), b.k3.cell (by omega), b.k4.cell (by omega)⟩
                  have R1 : Hid (∀ W : World, Below wc.heap.size wc W → RowAt W a' (L nx) c' fun c => .int .u8 (z nx c)) := fun W hW => (HP.out.pay.row).below hW
                  have R2 : Hid (∀ W : World, Below wc.heap.size wc W → RowAt W (A' nx) (L nx) (C' nx) fun c => .int .u8 (z nx c)) := fun W hW => (CL.out.below (bel.trans (hW.mono bel.size))).rows nx (by omega)
                  go_upto_region 25 with fail
                  go_region_held3 (fun W => (W.cell? ⟨R, 0, none⟩ = some (.int .i64 (S nx)) ∧ W.cell? ⟨R, 1, none⟩ = some (.int .u32 (T nx)) ∧ W.cell? ⟨R, 2, none⟩ = some (.bool (M nx)) ∧ W.cell? ⟨R, 3, none⟩ = some (.int .i64 (Z nx)) ∧ W.cell? ⟨R, 4, none⟩ = some (.slice a' (L nx) c')) ∧ W.cell? ⟨g0, nx, none⟩ = some (.int .i64 (S nx)) ∧ W.cell? ⟨g1, nx, none⟩ = some (.int .u32 (T nx)) ∧ W.cell? ⟨g2, nx, none⟩ = some (.bool (M nx)) ∧ W.cell? ⟨g3, nx, none⟩ = some (.int .i64 (Z nx)) ∧ W.cell? ⟨g4, nx, none⟩ = some (.slice (A' nx) (L nx) (C' nx)))
                    ((refine KEEP.out _ ?_; first | with_reducible exact hb6 | with_reducible exact hcc.drew))
                    ((go_at_call 23; refine (packetIs_self _ _ _ _ _ _ _ (z nx) _ _ _ (R1.out _ hcc.drew) (R2.out _ hcc.drew)).mono ?_; rintro e w6 ⟨rfl, hb⟩; have hb6 : Below wc.heap.size wc w6 := hcc.drew.trans (hb.mono hcc.size)))
                  clear KEEP R1 R2
                  have hi6 := HP.out.hi.below hb6
                  have live6 := HP.out.live.below hb6 HP.out.live.lt
                  rw [← hk] at hi6 live6
                  obtain ⟨i3, hi3, hz30, hz31, hz32⟩ := info_parts Try.info3
                  have OWN : Hid (_) := own_of_live (live6.alloc (.cells #[.int .i64 (nx : Int)] 3)) (by omega) (by unfold maxLen; omega)
                  have HI6 : Hid (_) := hi6
                  have LIVE6 : Hid (_) := live6
                  clear hi6 live6
                  rw [hk] at OWN
                  go_wp2_with (at_builtin; refine wpList_append_fits _ rfl (.tmp 169) (.tmp 171) 25 rfl 0 3 i3 1 Try.underlying25 hi3 hz31 GL k n _ rfl OWN.out ⟨w6.heap.size, 0, none⟩ 1 1 [.int .i64 nx] rfl rfl (one_new _ _ _) (by intro u hu; simp at hu; subst hu; rfl) (by omega) ?_)
                  intro w7 hown hgr
                  rw [← hk] at hown
                  have S7 : Hid (_) := si_pushed HI6.out LIVE6.out HS.out.mem HS.out.glge hnl hown hgr
                  have c7 := S7.out.hi.hcell.cell 0
                  simp [hk] at c7
                  clear hown hgr
                  go_wp2
                  go_roundw
                  case rel => exact ⟨s + 1, nx + 1, lv ++ [nx], F', zb', by omega, by omega, by simp; omega, by simp; omega, by simp [hk], by go_num, by go_num, S7⟩
                  case measure => simp [intOf]; omega
          | false =>
            by_cases hk0 : k = 0
            case pos =>
              have z2 : ((k : Int) == 0) = true := beq_iff_eq.2 (by omega)
              go_wp2
              go_roundw
              case rel => exact ⟨s + 1, nx, lv, F, zb, by omega, hnx, by omega, by omega, by rw [hk], rfl, by go_num, HS⟩
              case measure => simp [intOf]; omega
            case neg =>
              have z2 : ((k : Int) == 0) = false := beq_eq_false_iff_ne.2 (by omega)
              obtain ⟨m, hm⟩ : ∃ m, m + 1 = k := ⟨k - 1, by omega⟩
              go_wp2_with fail
              have hi := HI0.out
              have hl := LIVE.out
              rw [← hm] at hi hl
              refine (zzpop_any HB GB n m n F wr (by omega) (by omega) hi.hne hi.hcell hi.heap (by omega)).mono ?_
              rintro e w1 ⟨rfl, hA⟩
              have PD0 : Hid (_) := popd_start hi hl hA
              have LEAST : Hid (∀ a, a < k → (F 0).seq ≤ S (lv.getD a 0)) := fun a ha => hi.least (List.mem_map.2 ⟨lv.getD a 0, getD_mem (by omega), rfl⟩)
              have ROOT : Hid (cont zb (F 0) ∈ lv.map (ct S T M Z L z)) := hi.root
              clear hi hl hA HI0 LIVE
              go_upto_region 30 with fail
              generalize hw2 : w1.alloc (.cells _ 46) = w2
              have PD : Hid (Popd w9 w2 HB GB GL n m w1.heap.size (F 0) (popF F m) zb lv (lv.map (ct S T M Z L z))) := by
                show Popd _ _ _ _ _ _ _ _ _ _ _ _ _
                rw [← hw2]; exact PD0.out
              clear PD0 hw2
              generalize w1.heap.size = R at PD ⊢
              obtain ⟨x0, x1, x2, x3, x4⟩ := PD.out.box.pk
              go_wp2_with (go_at_call 28; refine (seqOf_any _ _ _ _ _ _ _ _).mono ?_; rintro e w3 ⟨rfl, hb3⟩)
              have P3 : Hid (_) := PD.out.below hb3
              clear PD hb3 x0 x1 x2 x3 x4
              go_loop [22] (fun x => ∃ a : Nat, a ≤ k ∧ x = .int .i64 a) (fun x => k - (intOf x).toNat)
              case atStart => exact ⟨0, Nat.zero_le _, rfl⟩
              case round =>
                obtain ⟨a, hak, rfl⟩ := hrel
                by_cases hal : a < k
                case pos =>
                  have q1 : w3.cell? ⟨GL, a, none⟩ = some (lvc lv a) := P3.out.live.cell (by omega)
                  have q2 := LEAST.out a hal
                  have q3 : lv.getD a 0 < n := HS.out.mem _ (getD_mem (by omega))
                  unfold lvc at q1
                  generalize lv.getD a 0 = j at q1 q2 q3
                  have q4 : w3.cell? ⟨g0, j, none⟩ = some (.int .i64 (S j)) := (CL.out.below P3.out.bel).k0.cell (by omega)
                  have z3 : (a : Int) < (k : Int) := by omega
                  have z4 : (j : Int) < (l0 : Int) := by omega
                  go_wp2
                  go_round
                  case rel => exact ⟨a + 1, by omega, by go_num⟩
                  case measure => simp [intOf]; omega
                case neg =>
                  have z3 : (k : Int) ≤ (a : Int) := by omega
                  go_wp2
                  go_loopw [23, 24] (PickRel w3 k (ct S T M Z L z) (cont zb (F 0)) lv) (fun _ x _ => k - (intOf x).toNat)
                  case atStart => exact ⟨0, -1, Nat.zero_le _, rfl, rfl, Or.inl ⟨rfl, fun b hb => by omega⟩, Below.refl _ _⟩
                  case round =>
                    clear z3 hal hak
                    obtain ⟨a, pk, hak, rfl, rfl, HC, HBL⟩ := hrel
                    rcases HC.out with ⟨epk, hno⟩ | ⟨b, hbk, epk, hcb⟩
                    · subst epk
                      by_cases hal : a < k
                      case neg =>
                        exfalso
                        obtain ⟨b, h1, h2⟩ := mem_getD ROOT.out
                        exact hno b (by omega) h2
                      case pos =>
                        as_aux_lemma =>
                          have P4 : Hid (_) := P3.out.below HBL.out
                          have bel := P4.out.bel
                          have q1 : wr.cell? ⟨GL, a, none⟩ = some (lvc lv a) := P4.out.live.cell (by omega)
                          have q3 : lv.getD a 0 < n := HS.out.mem _ (getD_mem (by omega))
                          unfold lvc at q1
                          obtain ⟨j, hj⟩ : ∃ j, lv.getD a 0 = j := ⟨_, rfl⟩
                          rw [hj] at q1 q3
                          have HJ : Hid (_) := hj
                          have HNO : Hid (_) := hno
                          clear hj hno
                          have hww : Below wr.heap.size wr wr := Below.refl _ _
                          have KEEP : Hid (∀ W : World, Below wr.heap.size wr W → ((W.cell? ⟨R, 0, none⟩ = some (.int .i64 (F 0).seq) ∧ W.cell? ⟨R, 1, none⟩ = some (.int .u32 (F 0).ts) ∧ W.cell? ⟨R, 2, none⟩ = some (.bool (F 0).mkr) ∧ W.cell? ⟨R, 3, none⟩ = some (.int .i64 (F 0).sz) ∧ W.cell? ⟨R, 4, none⟩ = some (.slice (F 0).pa (F 0).pl (F 0).pc)) ∧ W.cell? ⟨g0, j, none⟩ = some (.int .i64 (S j)) ∧ W.cell? ⟨g1, j, none⟩ = some (.int .u32 (T j)) ∧ W.cell? ⟨g2, j, none⟩ = some (.bool (M j)) ∧ W.cell? ⟨g3, j, none⟩ = some (.int .i64 (Z j)) ∧ W.cell? ⟨g4, j, none⟩ = some (.slice (A' j) (L j) (C' j)))) := fun W hW => by
                            have b := CL.out.below (bel.trans (hW.mono bel.size))
                            exact ⟨(P4.out.below hW).box.pk, b.k0.cell (by omega), b.k1.cell (by omega), b.k2.cell (by omega), b.k3.cell (by omega), b.k4.cell (by omega)⟩
                          have R1 : Hid (∀ W : World, Below wr.heap.size wr W → RowAt W (F 0).pa (F 0).pl (F 0).pc fun c => .int .u8 (zbOf zb (F 0).pa c)) := fun W hW => (P4.out.below hW).pay.row
                          have R2 : Hid (∀ W : World, Below wr.heap.size wr W → RowAt W (A' j) (L j) (C' j) fun c => .int .u8 (z j c)) := fun W hW => (CL.out.below (bel.trans (hW.mono bel.size))).rows j (by omega)
                          have z3 : (a : Int) < (k : Int) := by omega
                          have y0 : (j : Int) < (l0 : Int) := by omega
                          have y1 : (j : Int) < (l1 : Int) := by omega
                          have y2 : (j : Int) < (l2 : Int) := by omega
                          have y3 : (j : Int) < (l3 : Int) := by omega
                          have y4 : (j : Int) < (l4 : Int) := by omega
                          go_upto_region 41 with fail
                          clear q1
                          go_region_held3 (fun W => (W.cell? ⟨R, 0, none⟩ = some (.int .i64 (F 0).seq) ∧ W.cell? ⟨R, 1, none⟩ = some (.int .u32 (F 0).ts) ∧ W.cell? ⟨R, 2, none⟩ = some (.bool (F 0).mkr) ∧ W.cell? ⟨R, 3, none⟩ = some (.int .i64 (F 0).sz) ∧ W.cell? ⟨R, 4, none⟩ = some (.slice (F 0).pa (F 0).pl (F 0).pc)) ∧ W.cell? ⟨g0, j, none⟩ = some (.int .i64 (S j)) ∧ W.cell? ⟨g1, j, none⟩ = some (.int .u32 (T j)) ∧ W.cell? ⟨g2, j, none⟩ = some (.bool (M j)) ∧ W.cell? ⟨g3, j, none⟩ = some (.int .i64 (Z j)) ∧ W.cell? ⟨g4, j, none⟩ = some (.slice (A' j) (L j) (C' j)))
                            ((refine KEEP.out _ ?_; first | with_reducible exact hb6 | with_reducible exact hww.drew))
                            ((go_at_call 23; refine (packetIs_any _ _ _ _ _ _ _ (zbOf zb (F 0).pa) _ _ _ _ _ _ _ (z j) _ (R1.out _ hww.drew) (R2.out _ hww.drew)).mono ?_; rintro e w6 ⟨rfl, hb⟩; have hb6 : Below wr.heap.size wr w6 := hww.drew.trans (hb.mono hww.size)))
                          clear KEEP R1 R2
                          have HB6 : Hid (_) := HBL.out.trans (hb6.mono HBL.out.size)
                          have HIF : Hid (isB (F 0).seq (F 0).ts (F 0).mkr (F 0).sz (F 0).pl (zbOf zb (F 0).pa) (S j) (T j) (M j) (Z j) (L j) (z j) = true ↔ cont zb (F 0) = ct S T M Z L z j) := isB_iff2 _ _ _ _ _ _ _ _ _ _ _ _
                          generalize isB (F 0).seq (F 0).ts (F 0).mkr (F 0).sz (F 0).pl (zbOf zb (F 0).pa) (S j) (T j) (M j) (Z j) (L j) (z j) = bb at HIF ⊢
                          cases bb with
                          | true =>
                            go_wp2
                            go_roundw
                            case rel => exact ⟨a + 1, a, by omega, rfl, by go_num, Or.inr ⟨a, hal, rfl, by rw [HJ.out]; exact (HIF.out.1 rfl).symm⟩, HB6⟩
                            case measure => simp [intOf]; omega
                          | false =>
                            go_wp2
                            go_roundw
                            case rel =>
                              refine ⟨a + 1, -1, by omega, rfl, by go_num, Or.inl ⟨rfl, fun b hb => ?_⟩, HB6⟩
                              by_cases e : b = a
                              · subst e; rw [HJ.out]; intro x; exact absurd (HIF.out.2 x.symm) (by simp)
                              · exact HNO.out b (by omega)
                            case measure => simp [intOf]; omega
                    · subst epk
                      as_aux_lemma =>
                        have P4 : Hid (_) := P3.out.below HBL.out
                        have e1 : wr.cell? ⟨GL, m, none⟩ = some (lvc lv m) := P4.out.live.cell (by omega)
                        unfold lvc at e1
                        obtain ⟨u, e2⟩ := P4.out.live.there (i := b) (by omega)
                        have e3 : wr.frozen? ⟨GL, b, none⟩ = false := P4.out.live.frozen
                        have S4 : Hid (SI w9 (wr.setCell ⟨GL, b, none⟩ (.int .i64 ((lv.getD m 0 : Nat) : Int))) HB GB GL n (ct S T M Z L z) ((lv.set b (lv.getD m 0)).take m) (popF F m) zb) := si_popped P4.out (by omega) (by omega) HS.out.mem HS.out.glge (by omega) hcb
                        have hlen : ((lv.set b (lv.getD m 0)).take m).length = m := by simp; omega
                        obtain ⟨la, hla⟩ : ∃ la, lv.getD m 0 = la := ⟨_, rfl⟩
                        rw [hla] at e1 S4 hlen
                        clear hla
                        have q0 : (k : Int) - 1 = (m : Int) := by omega
                        have q1 : (m : Int) < (k : Int) := by omega
                        have q2 : (b : Int) < (k : Int) := by omega
                        have q3 : (m : Int) ≤ (n : Int) := by omega
                        have q4 : m ≤ n := by omega
                        rcases Nat.lt_or_ge a k with hal | hal
                        all_goals
                          go_upto_region 47 with fail
                          generalize wr.setCell ⟨GL, b, none⟩ (.int .i64 (la : Int)) = W4 at S4 ⊢
                          have c4 := S4.out.hi.hcell.cell 0
                          rw [hlen] at c4
                          simp at c4
                          clear e1 e2 e3
                          go_wp2
                          go_roundw
                          case rel => exact ⟨s + 1, nx, (lv.set b la).take m, popF F m, zb, by omega, hnx, by rw [hlen]; omega, by rw [hlen]; omega, by rw [hlen], rfl, by go_num, S4⟩
                          case measure => simp [intOf]; omega

end Go.Proofs.Qxb6605570a
