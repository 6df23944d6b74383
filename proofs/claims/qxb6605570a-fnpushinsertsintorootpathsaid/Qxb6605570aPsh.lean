import Derived.Test.Qxb6605570aKept
import Derived.Deep.RegionLawGrows
namespace Go.Proofs.Qxb6605570a
open Go.RowKit

/-- The world behind push's first line: the payload is copied. row: the memory that the next slot kept. -/
structure PM1 (w wd : World) (row : Option Nat) (p : Pk) (zf : Nat → Int) : Prop where
  os : wd.os = w.os
  tape : wd.tape = w.tape
  output : wd.output = w.output
  size : w.heap.size + 2 ≤ wd.heap.size
  block : ∀ j, j < w.heap.size → some j ≠ row → wd.heap[j]? = w.heap[j]?
  pbox : Lies wd w.heap.size p.arr 46
  res : Lies wd (w.heap.size + 1) zPk.arr 46
  pay : PayOwn wd p.pa p.pl p.pc zf
  payb : ∀ y, p.pa = some y → row = some y.block ∨ w.heap.size + 2 ≤ y.block

theorem Lies.set4 {w : World} {b : Nat} {p : Pk} {a : Option Addr} {l c : Nat} (h : Lies w b p.arr 46) : Lies (w.setCell ⟨b, 4, none⟩ (.slice a l c)) b (Pk.arr ⟨p.seq, p.ts, p.mkr, p.sz, a, l, c⟩) 46 := by
  unfold Lies at h ⊢
  simp only [World.setCell, Array.getElem?_modify]
  rw [if_pos trivial, h]; rfl

theorem pm1_of {w w3 : World} {row : Option Nat} {p : Pk} {a' : Option Addr} {c' : Nat} {zf : Nat → Int} (hrow : ∀ j, row = some j → j < w.heap.size)
    (q1 : PayOwn w3 a' p.pl c' zf) (q2 : ((w.alloc (.cells p.arr 46)).alloc (.cells zPk.arr 46)).grownBy w3 row) (q3 : ∀ y, a' = some y → row = some y.block ∨ y.block = w.heap.size + 1 + 1) :
    PM1 w (w3.setCell ⟨w.heap.size, 4, none⟩ (.slice a' p.pl c')) row ⟨p.seq, p.ts, p.mkr, p.sz, a', p.pl, c'⟩ zf := by
  have s0 := q2.size
  simp at s0
  have l1 : Lies w3 w.heap.size p.arr 46 := ((Lies.new w p.arr 46).alloc _).of_block (q2.block _ (by simp; omega) (fun e => by have := hrow _ e.symm; omega))
  have l2 : Lies w3 (w.heap.size + 1) zPk.arr 46 := by
    have := Lies.new (w.alloc (.cells p.arr 46)) zPk.arr 46
    simp at this
    exact this.of_block (q2.block _ (by simp) (fun e => by have := hrow _ e.symm; omega))
  refine ⟨q2.os, q2.tape, q2.output, by simp [World.setCell]; omega, ?_, l1.set4, l2.of_block (Below.heap_setCell w3 ⟨w.heap.size, 4, none⟩ _ _ (by show w.heap.size + 1 ≠ w.heap.size; omega)), ?_, fun y hy => (q3 y hy).imp id (fun h => by omega)⟩
  · intro j hj hr
    rw [Below.heap_setCell w3 ⟨w.heap.size, 4, none⟩ _ j (by show j ≠ w.heap.size; omega), q2.block j (by simp; omega) hr, Below.heap_alloc _ _ _ (by simp; omega), Below.heap_alloc _ _ _ hj]
  · refine q1.of_block fun x hx => Below.heap_setCell w3 ⟨w.heap.size, 4, none⟩ _ _ ?_
    show x.block ≠ w.heap.size
    rcases q3 x hx with h | h
    · have := hrow _ h; omega
    · omega

theorem pm1_pre {w w3 W2 : World} {row : Option Nat} {p : Pk} {a' : Option Addr} {c' : Nat} {zf : Nat → Int} (hrow : ∀ j, row = some j → j < w.heap.size) (e2 : (w.alloc (.cells p.arr 46)).alloc (.cells zPk.arr 46) = W2)
    (q1 : PayOwn w3 a' p.pl c' zf) (q2 : W2.drew.grownBy w3 row) (q3 : ∀ y, a' = some y → row = some y.block ∨ y.block = W2.drew.heap.size) :
    w3.cell? ⟨w.heap.size, 4, none⟩ = some (.slice p.pa p.pl p.pc) ∧ w3.frozen? ⟨w.heap.size, 4, none⟩ = false ∧ PM1 w (w3.setCell ⟨w.heap.size, 4, none⟩ (.slice a' p.pl c')) row ⟨p.seq, p.ts, p.mkr, p.sz, a', p.pl, c'⟩ zf := by
  subst e2
  have q2' : ((w.alloc (.cells p.arr 46)).alloc (.cells zPk.arr 46)).grownBy w3 row := ⟨q2.os, q2.tape, q2.output, q2.size, q2.block⟩
  have l1 : Lies w3 w.heap.size p.arr 46 := ((Lies.new w p.arr 46).alloc _).of_block (q2'.block _ (by simp; omega) (fun e => by have := hrow _ e.symm; omega))
  exact ⟨l1.cell 4, l1.frozen 4, pm1_of hrow q1 q2' (fun y hy => (q3 y hy).imp id (fun h => by rw [h]; simp [World.drew]))⟩

/-- One cell of a block is written. -/
theorem BlkTo.putm {w : World} {e g n m : Nat} (hmn : m ≤ n) {f f' : Nat → Value} (h : BlkTo w e g n m f) (k : Nat) (v : Value) (hk : f' k = v) (ho : ∀ i, i < m → i ≠ k → f' i = f i) : BlkTo (w.setCell ⟨g, k, none⟩ v) e g n m f' := by
  obtain ⟨cur, h1, h2, h3⟩ := h
  refine ⟨cur.setIfInBounds k v, ?_, by simpa using h2, ?_⟩
  · simp only [World.setCell, Array.getElem?_modify]
    rw [if_pos trivial, h1]; rfl
  · intro i hi
    rw [Array.getElem?_setIfInBounds]
    by_cases e : k = i
    · subst e; rw [if_pos rfl, if_pos (by omega), hk]
    · rw [if_neg e, h3 i hi, ho i hi (fun h => e h.symm)]
theorem BlkTo.putPkm {w : World} {g N K1 : Nat} {f : Nat → Pk} (h : BlkTo w 46 g (5 * N) (5 * K1) (hc f)) (hK : 5 * K1 ≤ 5 * N) (i : Nat) (p : Pk) :
    BlkTo (((((w.setCell ⟨g, i * 5, none⟩ (.int .i64 p.seq)).setCell ⟨g, i * 5 + 1, none⟩ (.int .u32 p.ts)).setCell ⟨g, i * 5 + 2, none⟩ (.bool p.mkr)).setCell ⟨g, i * 5 + 3, none⟩ (.int .i64 p.sz)).setCell ⟨g, i * 5 + 4, none⟩ (.slice p.pa p.pl p.pc)) 46 g (5 * N) (5 * K1) (hc (upd f i p)) := by
  have key : ∀ m, hc (upd f i p) m = if m / 5 = i then p.cell (m % 5) else hc f m := by
    intro m; unfold hc upd; split <;> rfl
  refine BlkTo.putm hK (f := fun m => if m = i * 5 + 4 then hc f m else hc (upd f i p) m) ?_ _ _ ?_ ?_
  · refine BlkTo.putm hK (f := fun m => if m = i * 5 + 4 ∨ m = i * 5 + 3 then hc f m else hc (upd f i p) m) ?_ _ _ ?_ ?_
    · refine BlkTo.putm hK (f := fun m => if m = i * 5 + 4 ∨ m = i * 5 + 3 ∨ m = i * 5 + 2 then hc f m else hc (upd f i p) m) ?_ _ _ ?_ ?_
      · refine BlkTo.putm hK (f := fun m => if m = i * 5 + 4 ∨ m = i * 5 + 3 ∨ m = i * 5 + 2 ∨ m = i * 5 + 1 then hc f m else hc (upd f i p) m) ?_ _ _ ?_ ?_
        · refine BlkTo.putm hK (f := hc f) h _ _ ?_ ?_
          · rw [if_neg (by omega), key, if_pos (by omega), show i * 5 % 5 = 0 from by omega]; rfl
          · intro m _ hm
            split
            · rfl
            · rw [key, if_neg (by omega)]
        · rw [if_neg (by omega), key, if_pos (by omega), show (i * 5 + 1) % 5 = 1 from by omega]; rfl
        · intro m _ hm
          by_cases e : m = i * 5 + 4 ∨ m = i * 5 + 3 ∨ m = i * 5 + 2
          · rw [if_pos e, if_pos (by omega)]
          · rw [if_neg e, if_neg (by omega)]
      · rw [if_neg (by omega), key, if_pos (by omega), show (i * 5 + 2) % 5 = 2 from by omega]; rfl
      · intro m _ hm
        by_cases e : m = i * 5 + 4 ∨ m = i * 5 + 3
        · rw [if_pos e, if_pos (by omega)]
        · rw [if_neg e, if_neg (by omega)]
    · rw [if_neg (by omega), key, if_pos (by omega), show (i * 5 + 3) % 5 = 3 from by omega]; rfl
    · intro m _ hm
      by_cases e : m = i * 5 + 4
      · rw [if_pos e, if_pos (by omega)]
      · rw [if_neg e, if_neg (by omega)]
  · rw [key, if_pos (by omega), show (i * 5 + 4) % 5 = 4 from by omega]; rfl
  · intro m _ hm
    rw [if_neg hm]


/-- The world in the middle of push, behind its append. -/
structure PMid (w wd : World) (hb g k g' cap' K1 : Nat) (row : Option Nat) (p : Pk) (zf : Nat → Int) (f : Nat → Pk) : Prop where
  os : wd.os = w.os
  tape : wd.tape = w.tape
  output : wd.output = w.output
  size : w.heap.size + 2 ≤ wd.heap.size
  block : ∀ j, j < w.heap.size → j ≠ g → j ≠ hb → some j ≠ row → wd.heap[j]? = w.heap[j]?
  pbox : Lies wd w.heap.size p.arr 46
  res : Lies wd (w.heap.size + 1) zPk.arr 46
  pay : PayOwn wd p.pa p.pl p.pc zf
  payb : ∀ y, p.pa = some y → row = some y.block ∨ w.heap.size + 2 ≤ y.block
  hcell : Lies wd hb #[.slice (some ⟨g', 0, none⟩) (k + 1) cap'] 43
  heap : BlkTo wd 46 g' (5 * cap') (5 * K1) (hc f)
  fits : k + 1 ≤ K1 ∧ K1 ≤ cap'
  far : g' ≠ hb ∧ g' ≠ w.heap.size ∧ g' ≠ w.heap.size + 1

theorem PayOwn.not46 {w : World} {pa : Option Addr} {pl pc g n m : Nat} {zf : Nat → Int} {F : Nat → Value} (h : PayOwn w pa pl pc zf) (y : BlkTo w 46 g n m F) : ∀ x, pa = some x → x.block ≠ g := by
  intro x hx e
  rcases h with ⟨h1, _⟩ | ⟨b, h1, _, _, cur, h4, _⟩
  · rw [h1] at hx; cases hx
  · rw [h1] at hx; cases hx
    obtain ⟨cur2, h5, _⟩ := y
    simp only at e
    subst e
    rw [h4] at h5
    cases h5
theorem PayOwn.not43 {w : World} {pa : Option Addr} {pl pc hb : Nat} {zf : Nat → Int} {cs : Array Value} (h : PayOwn w pa pl pc zf) (y : Lies w hb cs 43) : ∀ x, pa = some x → x.block ≠ hb := by
  intro x hx e
  rcases h with ⟨h1, _⟩ | ⟨b, h1, _, _, cur, h4, _⟩
  · rw [h1] at hx; cases hx
  · rw [h1] at hx; cases hx
    simp only at e
    subst e
    unfold Lies at y
    rw [h4] at y
    cases y

theorem PMid.store {w wd : World} {hb g k g' cap' K1 : Nat} {row : Option Nat} {p : Pk} {zf : Nat → Int} {f : Nat → Pk} (h : PMid w wd hb g k g' cap' K1 row p zf f) (hg : g' = g ∨ w.heap.size ≤ g') (i : Nat) (x : Pk) :
    PMid w (wd.setCells g' (i * 5) x.cs) hb g k g' cap' K1 row p zf (upd f i x) := by
  obtain ⟨e1, e2, e3⟩ := setCells_rest wd g' (i * 5) x.cs
  obtain ⟨f1, f2, f3⟩ := h.far
  refine ⟨e1.trans h.os, e2.trans h.tape, e3.trans h.output, by rw [setCells_size]; exact h.size, fun j hj h1 h2 h3 => (setCells_block wd g' _ _ j (by rcases hg with e | e <;> omega)).trans (h.block j hj h1 h2 h3),
    h.pbox.of_block (setCells_block wd g' _ _ _ (fun e => f2 e.symm)), h.res.of_block (setCells_block wd g' _ _ _ (fun e => f3 e.symm)), h.pay.of_block (fun y hy => setCells_block wd g' _ _ _ (h.pay.not46 h.heap y hy)), h.payb,
    h.hcell.of_block (setCells_block wd g' _ _ _ (fun e => f1 e.symm)), ?_, h.fits, h.far⟩
  exact h.heap.putPkm (by have := h.fits; omega) i x
theorem PMid.drewN {w wd : World} {hb g k g' cap' K1 : Nat} {row : Option Nat} {p : Pk} {zf : Nat → Int} {f : Nat → Pk} (h : PMid w wd hb g k g' cap' K1 row p zf f) (n : Nat) : PMid w (wd.drewN n) hb g k g' cap' K1 row p zf f :=
  ⟨h.os, h.tape, h.output, h.size, h.block, h.pbox, h.res, h.pay, h.payb, h.hcell, h.heap, h.fits, h.far⟩
theorem PM1.drew {w wd : World} {row : Option Nat} {p : Pk} {zf : Nat → Int} (h : PM1 w wd row p zf) : PM1 w wd.drew row p zf := ⟨h.os, h.tape, h.output, h.size, h.block, h.pbox, h.res, h.pay, h.payb⟩

/-- Behind an append with room. -/
theorem pm2_room {w W : World} {hb g k cap : Nat} {row : Option Nat} {p : Pk} {zf : Nat → Int} {f : Nat → Pk} (h : PM1 w W row p zf) (hb1 : hb < w.heap.size) (hg1 : g < w.heap.size) (hne : hb ≠ g) {v0 : Value}
    (hv : Lies W hb #[v0] 43) (y : BlkTo W 46 g (5 * cap) (5 * cap) (hc f)) (hk : k < cap) :
    PMid w (((W.alloc (.cells p.arr 46)).setCells g (0 + k * 5) p.cs).setCell ⟨hb, 0, none⟩ (.slice (some ⟨g, 0, none⟩) (k + 1) cap)) hb g k g cap cap row p zf (upd f k p) := by
  obtain ⟨e1, e2, e3⟩ := setCells_rest (W.alloc (.cells p.arr 46)) g (0 + k * 5) p.cs
  have e4 := setCells_size (W.alloc (.cells p.arr 46)) g (0 + k * 5) p.cs
  have e5 := setCells_block (W.alloc (.cells p.arr 46)) g (0 + k * 5) p.cs
  have e6 : BlkTo ((W.alloc (.cells p.arr 46)).setCells g (0 + k * 5) p.cs) 46 g (5 * cap) (5 * cap) (hc (upd f k p)) := by
    rw [Nat.zero_add]; exact (y.alloc _).setPk k p
  generalize (W.alloc (.cells p.arr 46)).setCells g (0 + k * 5) p.cs = W3 at e1 e2 e3 e4 e5 e6 ⊢
  have e7 : W3.heap.size = W.heap.size + 1 := by rw [e4]; simp
  have e8 : ∀ j, j < W.heap.size → j ≠ g → W3.heap[j]? = W.heap[j]? := fun j hj h1 => by rw [e5 j h1, Below.heap_alloc _ _ _ hj]
  have s0 := h.size
  have hhl := hv.lt
  have hv3 : Lies W3 hb #[v0] 43 := hv.of_block (e8 _ hhl hne)
  have key : ∀ j, j < W.heap.size → j ≠ g → j ≠ hb → (W3.setCell ⟨hb, 0, none⟩ (.slice (some ⟨g, 0, none⟩) (k + 1) cap)).heap[j]? = W.heap[j]? := by
    intro j hj h1 h2
    rw [Below.heap_setCell _ ⟨hb, 0, none⟩ _ j h2, e8 j hj h1]
  refine ⟨e1.trans h.os, e2.trans h.tape, e3.trans h.output, ?_, ?_, h.pbox.of_block (key _ (by omega) (by omega) (by omega)), h.res.of_block (key _ (by omega) (by omega) (by omega)), ?_, h.payb, hv3.set1, ?_, ⟨by omega, Nat.le_refl _⟩, ⟨fun e => hne e.symm, by omega, by omega⟩⟩
  · have : (W3.setCell ⟨hb, 0, none⟩ (.slice (some ⟨g, 0, none⟩) (k + 1) cap)).heap.size = W3.heap.size := by simp [World.setCell]
    rw [this]; omega
  · intro j hj h1 h2 h3
    rw [key j (by omega) h1 h2]; exact h.block j hj h3
  · exact h.pay.of_block fun x hx => key _ (h.pay.lt x hx) (h.pay.not46 y x hx) (h.pay.not43 hv x hx)
  · exact e6.of_block (Below.heap_setCell _ ⟨hb, 0, none⟩ _ _ (fun e => hne e.symm))

/-- Behind an append that grows. -/
theorem pm2_grow {w W w4 : World} {hb g k : Nat} {row : Option Nat} {p : Pk} {zf : Nat → Int} {f : Nat → Pk} {v' : Value} (h : PM1 w W row p zf) (hb1 : hb < w.heap.size) {v0 : Value}
    (hv : Lies W hb #[v0] 43) (hown : w4.ownsRow (W.alloc (.cells p.arr 46)).heap.size 46 5 v' (k + 1) ((List.range (5 * k)).map (hc f) ++ p.cs)) (hgr : (W.alloc (.cells p.arr 46)).grownBy w4 none) :
    ∃ g' cap', v' = .slice (some ⟨g', 0, none⟩) (k + 1) cap' ∧ w.heap.size ≤ g' ∧ w4.cell? ⟨hb, 0, none⟩ = some v0 ∧ w4.frozen? ⟨hb, 0, none⟩ = false ∧
      PMid w (w4.setCell ⟨hb, 0, none⟩ (.slice (some ⟨g', 0, none⟩) (k + 1) cap')) hb g k g' cap' (k + 1) row p zf (upd f k p) := by
  have s0 := h.size
  have key : ∀ j, j < W.heap.size → w4.heap[j]? = W.heap[j]? := by
    intro j hj
    rw [hgr.block j (by simp; omega) (by simp), Below.heap_alloc _ _ _ hj]
  have hv4 : Lies w4 hb #[v0] 43 := hv.of_block (key _ hv.lt)
  rcases hown.2 with ⟨_, h0⟩ | ⟨g', cap', cur, rfl, hge, hcur, hle, hml, hsz, htk⟩
  · omega
  · have hge' : W.heap.size + 1 ≤ g' := by simpa using hge
    have key2 : ∀ j, j < W.heap.size → j ≠ hb → (w4.setCell ⟨hb, 0, none⟩ (.slice (some ⟨g', 0, none⟩) (k + 1) cap')).heap[j]? = W.heap[j]? := by
      intro j hj h2
      rw [Below.heap_setCell _ ⟨hb, 0, none⟩ _ j h2, key j hj]
    have hlt := hv.lt
    refine ⟨g', cap', rfl, by omega, hv4.cell 0, hv4.frozen 0, hgr.os.trans h.os, hgr.tape.trans h.tape, hgr.output.trans h.output, ?_, ?_, h.pbox.of_block (key2 _ (by omega) (by omega)), h.res.of_block (key2 _ (by omega) (by omega)), ?_, h.payb, hv4.set1, ?_, ⟨Nat.le_refl _, hle⟩, ⟨by omega, by omega, by omega⟩⟩
    · have := hgr.size
      simp [World.setCell] at this ⊢
      omega
    · intro j hj h1 h2 h3
      rw [key2 j (by omega) h2]; exact h.block j hj h3
    · exact h.pay.of_block fun x hx => key2 _ (h.pay.lt x hx) (h.pay.not43 hv x hx)
    · refine BlkTo.of_block (w := w4) ?_ (Below.heap_setCell _ ⟨hb, 0, none⟩ _ _ (by show g' ≠ hb; omega))
      refine ⟨cur, hcur, by omega, fun i hi => ?_⟩
      have e1 : (cur.toList.take ((k + 1) * 5))[i]? = cur[i]? := by
        rw [List.getElem?_take]; simp [show i < (k + 1) * 5 from by omega]
      rw [← e1, htk]
      by_cases hik : i < 5 * k
      · rw [List.getElem?_append_left (by simpa using hik)]
        rw [List.getElem?_map, List.getElem?_range hik]
        show some (hc f i) = some (hc (upd f k p) i)
        unfold hc upd
        rw [if_neg (by omega)]
      · rw [List.getElem?_append_right (by simp; omega)]
        obtain ⟨d, hd, rfl⟩ : ∃ d, d < 5 ∧ i = 5 * k + d := ⟨i - 5 * k, by omega, by omega⟩
        rw [hc_at _ _ _ hd, upd, if_pos rfl]
        rw [show 5 * k + d - ((List.range (5 * k)).map (hc f)).length = d from by simp]
        rcases (show d = 0 ∨ d = 1 ∨ d = 2 ∨ d = 3 ∨ d = 4 by omega) with rfl | rfl | rfl | rfl | rfl <;> rfl

end Go.Proofs.Qxb6605570a
