import Derived.Test.Qxb6605570aOrd
namespace Go.Proofs.Qxb6605570a
open Go.RowKit

/-- Only block g may have turned. -/
structure Only (g : Nat) (w w' : World) : Prop where
  os : w'.os = w.os
  tape : w'.tape = w.tape
  output : w'.output = w.output
  size : w'.heap.size = w.heap.size
  block : ∀ k, k ≠ g → w'.heap[k]? = w.heap[k]?

theorem Only.refl (g : Nat) (w : World) : Only g w w := ⟨rfl, rfl, rfl, rfl, fun _ _ => rfl⟩
theorem Only.drewN {g : Nat} {w w' : World} (h : Only g w w') (q : Nat) : Only g w (w'.drewN q) := ⟨h.os, h.tape, h.output, h.size, h.block⟩
theorem Only.setCell {g : Nat} {w w' : World} (h : Only g w w') (o : Nat) (v : Value) : Only g w (w'.setCell ⟨g, o, none⟩ v) :=
  ⟨h.os, h.tape, h.output, by rw [← h.size]; simp [World.setCell], fun k hk => by rw [Below.heap_setCell w' ⟨g, o, none⟩ v k hk]; exact h.block k hk⟩
theorem Only.cell {g : Nat} {w w' : World} (h : Only g w w') {p : Addr} (hp : p.block ≠ g) : w'.cell? p = w.cell? p := World.cell?_of_block (h.block _ hp)
theorem Only.frozen {g : Nat} {w w' : World} (h : Only g w w') {p : Addr} (hp : p.block ≠ g) : w'.frozen? p = w.frozen? p := World.frozen?_of_block (h.block _ hp)

def upd (f : Nat → Pk) (i : Nat) (p : Pk) : Nat → Pk := fun j => if j = i then p else f j

/-- One packet of a whole block is written. -/
theorem BlkTo.putPk {w : World} {g N : Nat} {f : Nat → Pk} (h : BlkTo w 46 g (5 * N) (5 * N) (hc f)) (i : Nat) (p : Pk) :
    BlkTo (((((w.setCell ⟨g, i * 5, none⟩ (.int .i64 p.seq)).setCell ⟨g, i * 5 + 1, none⟩ (.int .u32 p.ts)).setCell ⟨g, i * 5 + 2, none⟩ (.bool p.mkr)).setCell ⟨g, i * 5 + 3, none⟩ (.int .i64 p.sz)).setCell ⟨g, i * 5 + 4, none⟩ (.slice p.pa p.pl p.pc)) 46 g (5 * N) (5 * N) (hc (upd f i p)) := by
  have key : ∀ m, hc (upd f i p) m = if m / 5 = i then p.cell (m % 5) else hc f m := by
    intro m; unfold hc upd; split <;> rfl
  refine BlkTo.put (f := fun m => if m = i * 5 + 4 then hc f m else hc (upd f i p) m) ?_ _ _ ?_ ?_
  · refine BlkTo.put (f := fun m => if m = i * 5 + 4 ∨ m = i * 5 + 3 then hc f m else hc (upd f i p) m) ?_ _ _ ?_ ?_
    · refine BlkTo.put (f := fun m => if m = i * 5 + 4 ∨ m = i * 5 + 3 ∨ m = i * 5 + 2 then hc f m else hc (upd f i p) m) ?_ _ _ ?_ ?_
      · refine BlkTo.put (f := fun m => if m = i * 5 + 4 ∨ m = i * 5 + 3 ∨ m = i * 5 + 2 ∨ m = i * 5 + 1 then hc f m else hc (upd f i p) m) ?_ _ _ ?_ ?_
        · refine BlkTo.put (f := hc f) h _ _ ?_ ?_
          · rw [if_neg (by omega), key, if_pos (by omega), show i * 5 % 5 = 0 from by omega]; rfl
          · intro m _ hm
            split
            · rfl
            · rw [key, if_neg (by omega)]
        · rw [if_neg (by omega), key, if_pos (by omega), show (i * 5 + 1) % 5 = 1 from by omega]; rfl
        · intro m _ hm
          by_cases e : m = i * 5 + 4 ∨ m = i * 5 + 3 ∨ m = i * 5 + 2
          · rw [if_pos e, if_pos (by omega)]
          · rw [if_neg e, if_neg (by omega)]
      · rw [if_neg (by omega), key, if_pos (by omega), show (i * 5 + 2) % 5 = 2 from by omega]; rfl
      · intro m _ hm
        by_cases e : m = i * 5 + 4 ∨ m = i * 5 + 3
        · rw [if_pos e, if_pos (by omega)]
        · rw [if_neg e, if_neg (by omega)]
    · rw [if_neg (by omega), key, if_pos (by omega), show (i * 5 + 3) % 5 = 3 from by omega]; rfl
    · intro m _ hm
      by_cases e : m = i * 5 + 4
      · rw [if_pos e, if_pos (by omega)]
      · rw [if_neg e, if_neg (by omega)]
  · rw [key, if_pos (by omega), show (i * 5 + 4) % 5 = 4 from by omega]; rfl
  · intro m _ hm
    rw [if_neg hm]

theorem info46s : (Try.prog.info? 46).map (·.size) = some 5 := by kernel_rfl
theorem BlkTo.setPk {w : World} {g N : Nat} {f : Nat → Pk} (h : BlkTo w 46 g (5 * N) (5 * N) (hc f)) (i : Nat) (p : Pk) : BlkTo (w.setCells g (i * 5) p.cs) 46 g (5 * N) (5 * N) (hc (upd f i p)) := h.putPk i p
theorem BlkTo.there5 {w : World} {g N k : Nat} {f : Nat → Value} (h : BlkTo w 46 g (5 * N) k f) {i : Nat} (hi : i < N) : w.there g (i * 5) 5 := by
  intro j hj
  obtain ⟨u, hu⟩ := h.there (i := i * 5 + j) (by omega)
  exact ⟨by rw [hu]; rfl, h.frozen⟩
theorem setCells_block (w : World) (b o : Nat) (vs : List Value) (k : Nat) (hk : k ≠ b) : (w.setCells b o vs).heap[k]? = w.heap[k]? := by
  induction vs generalizing w o with
  | nil => rfl
  | cons v vs ih => exact (ih (w.setCell ⟨b, o, none⟩ v) (o + 1)).trans (Below.heap_setCell w ⟨b, o, none⟩ v k hk)
theorem setCells_size (w : World) (b o : Nat) (vs : List Value) : (w.setCells b o vs).heap.size = w.heap.size := by
  induction vs generalizing w o with
  | nil => rfl
  | cons v vs ih => exact (ih (w.setCell ⟨b, o, none⟩ v) (o + 1)).trans (by simp [World.setCell])
theorem setCells_rest (w : World) (b o : Nat) (vs : List Value) : (w.setCells b o vs).os = w.os ∧ (w.setCells b o vs).tape = w.tape ∧ (w.setCells b o vs).output = w.output := by
  induction vs generalizing w o with
  | nil => exact ⟨rfl, rfl, rfl⟩
  | cons v vs ih => exact ih (w.setCell ⟨b, o, none⟩ v) (o + 1)

def Pk.arr (p : Pk) : Array Value := #[.int .i64 p.seq, .int .u32 p.ts, .bool p.mkr, .int .i64 p.sz, .slice p.pa p.pl p.pc]
theorem Pk.arr_one (p : Pk) : p.arr.all (·.oneCell') = true := all_oneCell_toArray (cs := p.cs) (cs_one p)
def zPk : Pk := ⟨0, 0, false, 0, none, 0, 0⟩

/-- The child that comes first. -/
def kid (f : Nat → Pk) (n i : Nat) : Nat := if 2 * i + 1 + 1 < n ∧ (f (2 * i + 1 + 1)).seq < (f (2 * i + 1)).seq then 2 * i + 1 + 1 else 2 * i + 1
/-- The sift down of pop, with fuel. -/
def siftD (last : Pk) (n : Nat) : Nat → (Nat → Pk) → Nat → (Nat → Pk)
  | 0, f, i => upd f i last
  | k + 1, f, i => if n ≤ kid f n i ∨ last.seq ≤ (f (kid f n i)).seq then upd f i last else siftD last n k (upd f i (f (kid f n i))) (kid f n i)
theorem siftD_stop {last : Pk} {n k i : Nat} {f : Nat → Pk} (h : n ≤ kid f n i ∨ last.seq ≤ (f (kid f n i)).seq) : siftD last n k f i = upd f i last := by
  cases k with
  | zero => rfl
  | succ k => unfold siftD; rw [if_pos h]
theorem siftD_go {last : Pk} {n k i c : Nat} {f : Nat → Pk} (hc : kid f n i = c) (h : ¬ (n ≤ c ∨ last.seq ≤ (f c).seq)) : siftD last n (k + 1) f i = siftD last n k (upd f i (f c)) c := by
  subst hc
  rw [siftD, if_neg h]

/-- A block whose whole content is known. -/
def Lies (w : World) (b : Nat) (cs : Array Value) (e : TypeId) : Prop := w.heap[b]? = some (.cells cs e (0, 0))
theorem Lies.cell {w : World} {b : Nat} {cs : Array Value} {e : TypeId} (h : Lies w b cs e) (o : Nat) : w.cell? ⟨b, o, none⟩ = cs[o]? := cell_of_row w b o cs e (0, 0) h
theorem Lies.frozen {w : World} {b : Nat} {cs : Array Value} {e : TypeId} (h : Lies w b cs e) (o : Nat) : w.frozen? ⟨b, o, none⟩ = false := by
  unfold Lies at h
  simp [World.frozen?, h]
theorem Lies.lt {w : World} {b : Nat} {cs : Array Value} {e : TypeId} (h : Lies w b cs e) : b < w.heap.size := (Array.getElem?_eq_some_iff.1 h).1
theorem Lies.alloc {w : World} {b : Nat} {cs : Array Value} {e : TypeId} (h : Lies w b cs e) (o : Obj) : Lies (w.alloc o) b cs e := (Below.heap_alloc w o b h.lt).trans h
theorem Lies.new (w : World) (cs : Array Value) (e : TypeId) : Lies (w.alloc (.cells cs e)) w.heap.size cs e := heap_alloc_new w _
theorem Lies.of_block {w w' : World} {b : Nat} {cs : Array Value} {e : TypeId} (h : Lies w b cs e) (hb : w'.heap[b]? = w.heap[b]?) : Lies w' b cs e := hb.trans h

theorem Lies.pk {w : World} {b : Nat} {p : Pk} (h : Lies w b p.arr 46) :
    w.cell? ⟨b, 0, none⟩ = some (.int .i64 p.seq) ∧ w.cell? ⟨b, 1, none⟩ = some (.int .u32 p.ts) ∧ w.cell? ⟨b, 2, none⟩ = some (.bool p.mkr) ∧ w.cell? ⟨b, 3, none⟩ = some (.int .i64 p.sz) ∧ w.cell? ⟨b, 4, none⟩ = some (.slice p.pa p.pl p.pc) :=
  ⟨h.cell 0, h.cell 1, h.cell 2, h.cell 3, h.cell 4⟩
/-- The world in the middle of push or pop: h's own cell, the three boxes, the heap's block; all else as it was. -/
structure Mid (w wd : World) (hb g K R : Nat) (hv : Value) (r p q : Pk) (f : Nat → Pk) : Prop where
  os : wd.os = w.os
  tape : wd.tape = w.tape
  output : wd.output = w.output
  size : w.heap.size ≤ wd.heap.size
  block : ∀ k, k < w.heap.size → k ≠ g → k ≠ hb → wd.heap[k]? = w.heap[k]?
  hcell : Lies wd hb #[hv] 43
  res : Lies wd R r.arr 46
  pbox : Lies wd (R + 1) p.arr 46
  lbox : Lies wd (R + 1 + 1) q.arr 46
  heap : BlkTo wd 46 g (5 * K) (5 * K) (hc f)

theorem Mid.drewN {w wd : World} {hb g K R : Nat} {hv : Value} {r p q : Pk} {f : Nat → Pk} (h : Mid w wd hb g K R hv r p q f) (n : Nat) : Mid w (wd.drewN n) hb g K R hv r p q f :=
  ⟨h.os, h.tape, h.output, h.size, h.block, h.hcell, h.res, h.pbox, h.lbox, h.heap⟩
theorem Mid.drewN2 {w wd : World} {hb g K R : Nat} {hv : Value} {r p q : Pk} {f : Nat → Pk} (h : Mid w wd hb g K R hv r p q f) (n m : Nat) : Mid w ((wd.drewN n).drewN m) hb g K R hv r p q f := (h.drewN n).drewN m
theorem Mid.store {w wd : World} {hb g K R : Nat} {hv : Value} {r p q : Pk} {f : Nat → Pk} (h : Mid w wd hb g K R hv r p q f) (hne : hb ≠ g) (hR : g < R) (i : Nat) (x : Pk) :
    Mid w (wd.setCells g (i * 5) x.cs) hb g K R hv r p q (upd f i x) := by
  obtain ⟨e1, e2, e3⟩ := setCells_rest wd g (i * 5) x.cs
  exact ⟨e1.trans h.os, e2.trans h.tape, e3.trans h.output, by rw [setCells_size]; exact h.size, fun k hk h1 h2 => (setCells_block wd g _ _ k h1).trans (h.block k hk h1 h2),
    h.hcell.of_block (setCells_block wd g _ _ _ hne), h.res.of_block (setCells_block wd g _ _ _ (by omega)), h.pbox.of_block (setCells_block wd g _ _ _ (by omega)), h.lbox.of_block (setCells_block wd g _ _ _ (by omega)), h.heap.setPk i x⟩
theorem Lies.set1 {w : World} {b : Nat} {v v' : Value} {e : TypeId} (h : Lies w b #[v] e) : Lies (w.setCell ⟨b, 0, none⟩ v') b #[v'] e := by
  unfold Lies at h ⊢
  simp only [World.setCell, Array.getElem?_modify]
  rw [if_pos trivial, h]; rfl
theorem Mid.seth {w wd : World} {hb g K R : Nat} {hv : Value} {r p q : Pk} {f : Nat → Pk} (h : Mid w wd hb g K R hv r p q f) (hne : hb ≠ g) (hR : hb < R) (v : Value) :
    Mid w (wd.setCell ⟨hb, 0, none⟩ v) hb g K R v r p q f :=
  ⟨h.os, h.tape, h.output, by have := h.size; simpa [World.setCell] using this, fun k hk h1 h2 => (Below.heap_setCell wd ⟨hb, 0, none⟩ v k h2).trans (h.block k hk h1 h2),
    h.hcell.set1, h.res.of_block (Below.heap_setCell wd ⟨hb, 0, none⟩ v _ (by show R ≠ hb; omega)), h.pbox.of_block (Below.heap_setCell wd ⟨hb, 0, none⟩ v _ (by show R + 1 ≠ hb; omega)), h.lbox.of_block (Below.heap_setCell wd ⟨hb, 0, none⟩ v _ (by show R + 1 + 1 ≠ hb; omega)),
    h.heap.of_block (Below.heap_setCell wd ⟨hb, 0, none⟩ v _ (fun e => hne e.symm))⟩

/-- The world behind push or pop: h's own cell and the heap's block are told; all else that was there is as it was. -/
structure After (w wd : World) (hb g K : Nat) (hv : Value) (f : Nat → Pk) : Prop where
  os : wd.os = w.os
  tape : wd.tape = w.tape
  output : wd.output = w.output
  size : w.heap.size ≤ wd.heap.size
  block : ∀ k, k < w.heap.size → k ≠ g → k ≠ hb → wd.heap[k]? = w.heap[k]?
  hcell : Lies wd hb #[hv] 43
  heap : BlkTo wd 46 g (5 * K) (5 * K) (hc f)

theorem Mid.after {w wd : World} {hb g K : Nat} {hv : Value} {r p q : Pk} {f : Nat → Pk} (h : Mid w wd hb g K w.heap.size hv r p q f) (h1 : hb < w.heap.size) (h2 : g < w.heap.size) (vs : List Value) :
    After w (wd.setCells w.heap.size 0 vs) hb g K hv f := by
  obtain ⟨e1, e2, e3⟩ := setCells_rest wd w.heap.size 0 vs
  exact ⟨e1.trans h.os, e2.trans h.tape, e3.trans h.output, by rw [setCells_size]; exact h.size, fun k hk a b => (setCells_block wd _ _ _ k (by omega)).trans (h.block k hk a b),
    h.hcell.of_block (setCells_block wd _ _ _ _ (by omega)), h.heap.of_block (setCells_block wd _ _ _ _ (by omega))⟩

/-- One block more ahead of the call, written behind it. -/
theorem After.over {w wd : World} {o : Obj} {hb g K : Nat} {hv : Value} {f : Nat → Pk} (h : After (w.alloc o) wd hb g K hv f) (h1 : hb < w.heap.size) (h2 : g < w.heap.size) (vs : List Value) :
    After w (wd.setCells w.heap.size 0 vs) hb g K hv f := by
  obtain ⟨e1, e2, e3⟩ := setCells_rest wd w.heap.size 0 vs
  refine ⟨e1.trans h.os, e2.trans h.tape, e3.trans h.output, by rw [setCells_size]; have := h.size; simp at this; omega, fun k hk a b => ?_, h.hcell.of_block (setCells_block wd _ _ _ _ (by omega)), h.heap.of_block (setCells_block wd _ _ _ _ (by omega))⟩
  rw [setCells_block wd _ _ _ k (by omega), h.block k (by simp; omega) a b, Below.heap_alloc w o k hk]

/-- What pop leaves of a heap of n + 1 packets. -/
def popF (f : Nat → Pk) (n : Nat) : Nat → Pk :=
  if n = 0 then upd f n ⟨0, 0, false, 0, (f 0).pa, (f 0).pl, (f 0).pc⟩ else siftD (f n) n n (upd f n ⟨0, 0, false, 0, (f 0).pa, (f 0).pl, (f 0).pc⟩) 0

theorem mid_start (hb g K : Nat) (hv : Value) (r p q : Pk) (f : Nat → Pk) (w : World) (h : Lies w hb #[hv] 43) (y : BlkTo w 46 g (5 * K) (5 * K) (hc f)) :
    Mid w (((w.alloc (.cells r.arr 46)).alloc (.cells p.arr 46)).alloc (.cells q.arr 46)) hb g K w.heap.size hv r p q f := by
  refine ⟨rfl, rfl, rfl, by simp; omega, ?_, ((h.alloc _).alloc _).alloc _, ((Lies.new w _ 46).alloc _).alloc _, ?_, ?_, ((y.alloc _).alloc _).alloc _⟩
  · intro k hk _ _
    rw [Below.heap_alloc _ _ _ (by simp; omega), Below.heap_alloc _ _ _ (by simp; omega), Below.heap_alloc _ _ _ hk]
  · have := (Lies.new (w.alloc (.cells r.arr 46)) p.arr 46).alloc (.cells q.arr 46)
    simpa using this
  · have := Lies.new ((w.alloc (.cells r.arr 46)).alloc (.cells p.arr 46)) q.arr 46
    simpa using this

set_option maxHeartbeats 1000000 in
set_option maxRecDepth 100000 in
theorem pop_in (hb g K n cap : Nat) (f : Nat → Pk) (w : World) (hK : n < K) (hK2 : K ≤ 4097) (hne : hb ≠ g) (hv : Lies w hb #[.slice (some ⟨g, 0, none⟩) (n + 1) cap] 43)
    (y : BlkTo w 46 g (5 * K) (5 * K) (hc f)) (hn : 0 < n) (hnb : ((n : Int) == 0) = false) (hcap : n + 1 ≤ cap) :
    Calls Try.prog 33 #[.pointer (some ⟨hb, 0, none⟩)] w fun e w' => e = .returned (.agg #[.int .i64 (f 0).seq, .int .u32 (f 0).ts, .bool (f 0).mkr, .int .i64 (f 0).sz, .slice (f 0).pa (f 0).pl (f 0).pc]) ∧ After w w' hb g K (.slice (some ⟨g, 0, none⟩) n cap) (popF f n) := by
  obtain ⟨a0, a1, a2, a3, a4⟩ := y.pk (show 0 < K by omega)
  obtain ⟨b0, b1, b2, b3, b4⟩ := y.pk hK
  have hgl := y.lt
  have hbl := hv.lt
  have c0 := hv.cell 0
  rw [Nat.zero_mul] at a0 a1 a2 a3 a4
  simp at c0
  have hth : (((w.alloc (.cells zPk.arr 46)).alloc (.cells (f 0).arr 46)).alloc (.cells (f n).arr 46)).there g (n * 5) 5 := (((y.alloc _).alloc _).alloc _).there5 hK
  have HTH : Hid (_) := hth
  clear hth
  go_enter Try.func33, Try.ntmps33
  go_upto_region 4 with fail
  go_cut [] (fun wd => Hid (Mid w wd hb g K w.heap.size (.slice (some ⟨g, 0, none⟩) (n + 1) cap) zPk (f 0) (f n) (upd f n ⟨0, 0, false, 0, (f 0).pa, (f 0).pl, (f 0).pc⟩)))
  case first =>
    go_wp2_with (refine wpList_store_mid rfl 46 (.tmp 27) (.tmp 26) rfl g (n * 5) (Pk.arr ⟨0, 0, false, 0, (f 0).pa, (f 0).pl, (f 0).pc⟩) rfl rfl HTH.out info46s (Pk.arr_one _) ?_)
    go_meet
    have m0 : Mid w (((w.alloc (.cells zPk.arr 46)).alloc (.cells (f 0).arr 46)).alloc (.cells (f n).arr 46)) hb g K w.heap.size (.slice (some ⟨g, 0, none⟩) (n + 1) cap) zPk (f 0) (f n) f := mid_start hb g K _ zPk (f 0) (f n) f w hv y
    exact m0.store hne hgl n ⟨0, 0, false, 0, (f 0).pa, (f 0).pl, (f 0).pc⟩
  case rest =>
    have HM := hcut
    clear hcut a0 a1 a2 a3 a4 b0 b1 b2 b3 b4 c0 HTH
    have c0 := HM.out.hcell.cell 0
    have c1 := HM.out.hcell.frozen 0
    simp at c0
    go_upto_block 0 with fail
    clear c0 c1
    have HM2 : Hid (_) := HM.out.seth hne hbl (.slice (some ⟨g, 0, none⟩) n cap)
    clear HM
    go_cut [7] (fun x wd => ∃ (i : Nat) (fk : Nat → Pk), x = .int .i64 i ∧ i < n ∧ Hid (Mid w wd hb g K w.heap.size (.slice (some ⟨g, 0, none⟩) n cap) zPk (f 0) (f n) fk) ∧ Hid (upd fk i (f n) = siftD (f n) n n (upd f n ⟨0, 0, false, 0, (f 0).pa, (f 0).pl, (f 0).pc⟩) 0))
    case first =>
      go_wp2
      go_loopw [7] (fun x wd => ∃ (i : Nat) (fk : Nat → Pk) (fuel : Nat), i < n ∧ n ≤ i + fuel ∧ x = .int .i64 i ∧ Hid (Mid w wd hb g K w.heap.size (.slice (some ⟨g, 0, none⟩) n cap) zPk (f 0) (f n) fk) ∧ Hid (siftD (f n) n fuel fk i = siftD (f n) n n (upd f n ⟨0, 0, false, 0, (f 0).pa, (f 0).pl, (f 0).pc⟩) 0)) (fun x _ => n - (intOf x).toNat)
      case atStart => exact ⟨0, _, n, hn, by omega, rfl, HM2, rfl⟩
      case round =>
        clear HM2
        obtain ⟨i, fk, fuel, hin, hfu, rfl, HX, HS⟩ := hrel
        obtain ⟨fuel, rfl⟩ : ∃ m, fuel = m + 1 := ⟨fuel - 1, by omega⟩
        obtain ⟨c, hcc⟩ : ∃ c, 2 * i + 1 = c := ⟨_, rfl⟩
        have ec : 2 * (i : Int) + 1 = (c : Int) := by omega
        have hiK : i < K := by omega
        have i0 : i < c := by omega
        have ls := HX.out.lbox.cell 0
        simp [Pk.arr] at ls
        have HCC : Hid (_) := hcc
        clear hcc
        by_cases h1 : c + 1 < n
        · obtain ⟨p0, p1, p2, p3, p4⟩ := HX.out.heap.pk (show c < K by omega)
          obtain ⟨r0, r1, r2, r3, r4⟩ := HX.out.heap.pk (show c + 1 < K by omega)
          have z1 : (c : Int) + 1 < (n : Int) := by omega
          have z2 : (c : Int) < (n : Int) := by omega
          have z3 : decide ((n : Int) ≤ (c : Int) + 1) = false := decide_eq_false (by omega)
          have z4 : decide ((n : Int) ≤ (c : Int)) = false := decide_eq_false (by omega)
          by_cases h2 : (fk (c + 1)).seq < (fk c).seq
          · have HK : Hid (kid fk n i = c + 1) := by show kid fk n i = c + 1; unfold kid; rw [HCC.out, if_pos ⟨h1, h2⟩]
            by_cases h3 : (f n).seq ≤ (fk (c + 1)).seq
            · go_wp2
              go_quiet (fail)
              go_wp2
              go_quiet (fail)
              go_wp2
              go_meet
              exact ⟨i, fk, rfl, hin, HX.out.drewN2 _ _, by show _ = _; rw [← HS.out, siftD_stop (by rw [HK.out]; exact Or.inr h3)]⟩
            · go_wp2
              go_quiet (fail)
              go_wp2
              go_quiet (fail)
              go_wp2_with (refine wpList_store_mid rfl 46 (.tmp 79) (.tmp 78) rfl g (i * 5) (Pk.arr (fk (c + 1))) rfl rfl (HX.out.heap.there5 hiK) info46s (Pk.arr_one _) ?_)
              go_roundw
              case rel => exact ⟨(c + 1), upd fk i (fk (c + 1)), fuel, by omega, by omega, by go_num, (HX.out.drewN _).store hne (by omega) i (fk (c + 1)), by show _ = _; rw [← HS.out, siftD_go HK.out (by omega)]⟩
              case measure => simp [intOf]; omega
          · have HK : Hid (kid fk n i = c) := by show kid fk n i = c; unfold kid; rw [HCC.out, if_neg (fun x => h2 x.2)]
            have z5 : decide ((fk (c + 1)).seq < (fk c).seq) = false := decide_eq_false h2
            have h4 : c < n := by omega
            clear z3 h2
            by_cases h3 : (f n).seq ≤ (fk c).seq
            · go_wp2
              go_quiet (fail)
              go_wp2
              go_quiet (fail)
              go_wp2
              go_meet
              exact ⟨i, fk, rfl, hin, HX.out.drewN2 _ _, by show _ = _; rw [← HS.out, siftD_stop (by rw [HK.out]; exact Or.inr h3)]⟩
            · go_wp2
              go_quiet (fail)
              go_wp2
              go_quiet (fail)
              go_wp2_with (refine wpList_store_mid rfl 46 (.tmp 79) (.tmp 78) rfl g (i * 5) (Pk.arr (fk c)) rfl rfl (HX.out.heap.there5 hiK) info46s (Pk.arr_one _) ?_)
              go_roundw
              case rel => exact ⟨c, upd fk i (fk c), fuel, by omega, by omega, rfl, (HX.out.drewN _).store hne (by omega) i (fk c), by show _ = _; rw [← HS.out, siftD_go HK.out (by omega)]⟩
              case measure => simp [intOf]; omega
        · have HK : Hid (kid fk n i = c) := by show kid fk n i = c; unfold kid; rw [HCC.out, if_neg (fun x => h1 x.1)]
          have z1 : decide ((c : Int) + 1 < (n : Int)) = false := decide_eq_false (by omega)
          by_cases h4 : c < n
          · obtain ⟨p0, p1, p2, p3, p4⟩ := HX.out.heap.pk (show c < K by omega)
            have z2 : (c : Int) < (n : Int) := by omega
            have z4 : decide ((n : Int) ≤ (c : Int)) = false := decide_eq_false (by omega)
            by_cases h3 : (f n).seq ≤ (fk c).seq
            · go_wp2
              go_quiet (fail)
              go_wp2
              go_quiet (fail)
              go_wp2
              go_meet
              exact ⟨i, fk, rfl, hin, HX.out.drewN2 _ _, by show _ = _; rw [← HS.out, siftD_stop (by rw [HK.out]; exact Or.inr h3)]⟩
            · go_wp2
              go_quiet (fail)
              go_wp2
              go_quiet (fail)
              go_wp2_with (refine wpList_store_mid rfl 46 (.tmp 79) (.tmp 78) rfl g (i * 5) (Pk.arr (fk c)) rfl rfl (HX.out.heap.there5 hiK) info46s (Pk.arr_one _) ?_)
              go_roundw
              case rel => exact ⟨c, upd fk i (fk c), fuel, by omega, by omega, rfl, (HX.out.drewN _).store hne (by omega) i (fk c), by show _ = _; rw [← HS.out, siftD_go HK.out (by omega)]⟩
              case measure => simp [intOf]; omega
          · have z4 : (n : Int) ≤ (c : Int) := by omega
            go_wp2
            go_quiet (fail)
            go_wp2
            go_quiet (fail)
            go_wp2
            go_meet
            exact ⟨i, fk, rfl, hin, HX.out.drewN2 _ _, by show _ = _; rw [← HS.out, siftD_stop (by rw [HK.out]; exact Or.inl (by omega))]⟩
    case rest =>
      obtain ⟨i, fk, rfl, hin, HX, HF⟩ := hcut
      clear HM2
      have hiK : i < K := by omega
      obtain ⟨l0, l1, l2, l3, l4⟩ := HX.out.lbox.pk
      have z1 : (i : Int) < (n : Int) := by omega
      have HTH : Hid (wc.there g (i * 5) 5) := HX.out.heap.there5 hiK
      go_upto_region 16 with fail
      go_cut [] (fun wd => Hid (Mid w wd hb g K w.heap.size (.slice (some ⟨g, 0, none⟩) n cap) zPk (f 0) (f n) (upd fk i (f n))))
      case first =>
        go_wp2_with (refine wpList_store_mid rfl 46 (.tmp 84) (.tmp 83) rfl g (i * 5) (Pk.arr (f n)) rfl rfl HTH.out info46s (Pk.arr_one _) ?_)
        go_meet
        exact HX.out.store hne hgl i (f n)
      case rest =>
        have HY := hcut
        clear hcut HX HTH l0 l1 l2 l3 l4
        obtain ⟨p0, p1, p2, p3, p4⟩ := HY.out.pbox.pk
        obtain ⟨r0, r1, r2, r3, r4⟩ := HY.out.res.pk
        have fr : ∀ o, wc.frozen? ⟨w.heap.size, o, none⟩ = false := HY.out.res.frozen
        go_wp2
        refine bodyPost_ret (v := .agg #[.int .i64 (f 0).seq, .int .u32 (f 0).ts, .bool (f 0).mkr, .int .i64 (f 0).sz, .slice (f 0).pa (f 0).pl (f 0).pc]) (by simp [results, Try.results33, go_sem, r0, r1, r2, r3, r4]) rfl ⟨rfl, ?_⟩
        have ef : popF f n = upd fk i (f n) := by unfold popF; rw [if_neg (by omega), HF.out]
        rw [ef]
        exact HY.out.after hbl hgl (f 0).cs

set_option maxHeartbeats 1000000 in
set_option maxRecDepth 100000 in
/-- The last packet is taken out. -/
theorem pop_last (hb g K cap : Nat) (f : Nat → Pk) (w : World) (hK : 0 < K) (hne : hb ≠ g) (hv : Lies w hb #[.slice (some ⟨g, 0, none⟩) (0 + 1) cap] 43)
    (y : BlkTo w 46 g (5 * K) (5 * K) (hc f)) (hcap : 0 + 1 ≤ cap) :
    Calls Try.prog 33 #[.pointer (some ⟨hb, 0, none⟩)] w fun e w' => e = .returned (.agg #[.int .i64 (f 0).seq, .int .u32 (f 0).ts, .bool (f 0).mkr, .int .i64 (f 0).sz, .slice (f 0).pa (f 0).pl (f 0).pc]) ∧ After w w' hb g K (.slice (some ⟨g, 0, none⟩) 0 cap) (popF f 0) := by
  obtain ⟨a0, a1, a2, a3, a4⟩ := y.pk hK
  have hgl := y.lt
  have hbl := hv.lt
  have c0 := hv.cell 0
  rw [Nat.zero_mul] at a0 a1 a2 a3 a4
  simp at c0
  have hth : (((w.alloc (.cells zPk.arr 46)).alloc (.cells (f 0).arr 46)).alloc (.cells (f 0).arr 46)).there g (0 * 5) 5 := (((y.alloc _).alloc _).alloc _).there5 hK
  have HTH : Hid (_) := hth
  clear hth
  go_enter Try.func33, Try.ntmps33
  go_upto_region 4 with fail
  go_cut [] (fun wd => Hid (Mid w wd hb g K w.heap.size (.slice (some ⟨g, 0, none⟩) (0 + 1) cap) zPk (f 0) (f 0) (upd f 0 ⟨0, 0, false, 0, (f 0).pa, (f 0).pl, (f 0).pc⟩)))
  case first =>
    go_wp2_with (refine wpList_store_mid rfl 46 (.tmp 27) (.tmp 26) rfl g (0 * 5) (Pk.arr ⟨0, 0, false, 0, (f 0).pa, (f 0).pl, (f 0).pc⟩) rfl rfl HTH.out info46s (Pk.arr_one _) ?_)
    go_meet
    have m0 : Mid w (((w.alloc (.cells zPk.arr 46)).alloc (.cells (f 0).arr 46)).alloc (.cells (f 0).arr 46)) hb g K w.heap.size (.slice (some ⟨g, 0, none⟩) (0 + 1) cap) zPk (f 0) (f 0) f := mid_start hb g K _ zPk (f 0) (f 0) f w hv y
    exact m0.store hne hgl 0 ⟨0, 0, false, 0, (f 0).pa, (f 0).pl, (f 0).pc⟩
  case rest =>
    have HM := hcut
    clear hcut a0 a1 a2 a3 a4 c0 HTH
    have c0 := HM.out.hcell.cell 0
    have c1 := HM.out.hcell.frozen 0
    simp at c0
    go_upto_region 7 with fail
    have HM2 : Hid (_) := HM.out.seth hne hbl (.slice (some ⟨g, 0, none⟩) 0 cap)
    obtain ⟨p0, p1, p2, p3, p4⟩ := HM.out.pbox.pk
    obtain ⟨r0, r1, r2, r3, r4⟩ := HM.out.res.pk
    have fr : ∀ o, wc.frozen? ⟨w.heap.size, o, none⟩ = false := HM.out.res.frozen
    clear HM c0 c1
    generalize hW : wc.setCell ⟨hb, 0, none⟩ (.slice (some ⟨g, 0, none⟩) 0 cap) = W at HM2 ⊢
    clear hW p0 p1 p2 p3 p4 r0 r1 r2 r3 r4 fr
    obtain ⟨p0, p1, p2, p3, p4⟩ := HM2.out.pbox.pk
    obtain ⟨r0, r1, r2, r3, r4⟩ := HM2.out.res.pk
    have fr : ∀ o, W.frozen? ⟨w.heap.size, o, none⟩ = false := HM2.out.res.frozen
    go_wp2
    refine bodyPost_ret (v := .agg #[.int .i64 (f 0).seq, .int .u32 (f 0).ts, .bool (f 0).mkr, .int .i64 (f 0).sz, .slice (f 0).pa (f 0).pl (f 0).pc]) (by simp [results, Try.results33, go_sem, r0, r1, r2, r3, r4]) rfl ⟨rfl, ?_⟩
    have ef : popF f 0 = upd f 0 ⟨0, 0, false, 0, (f 0).pa, (f 0).pl, (f 0).pc⟩ := by unfold popF; rw [if_pos rfl]
    rw [ef]
    exact HM2.out.after hbl hgl (f 0).cs

theorem pop_any (hb g K n cap : Nat) (f : Nat → Pk) (w : World) (hK : n < K) (hK2 : K ≤ 4097) (hne : hb ≠ g) (hv : Lies w hb #[.slice (some ⟨g, 0, none⟩) (n + 1) cap] 43)
    (y : BlkTo w 46 g (5 * K) (5 * K) (hc f)) (hcap : n + 1 ≤ cap) :
    Calls Try.prog 33 #[.pointer (some ⟨hb, 0, none⟩)] w fun e w' => e = .returned (.agg #[.int .i64 (f 0).seq, .int .u32 (f 0).ts, .bool (f 0).mkr, .int .i64 (f 0).sz, .slice (f 0).pa (f 0).pl (f 0).pc]) ∧ After w w' hb g K (.slice (some ⟨g, 0, none⟩) n cap) (popF f n) := by
  by_cases hn : 0 < n
  · exact pop_in hb g K n cap f w hK hK2 hne hv y hn (beq_eq_false_iff_ne.2 (by omega)) hcap
  · have e : n = 0 := by omega
    subst e
    exact pop_last hb g K cap f w hK hne hv y hcap

set_option maxHeartbeats 400000 in
theorem zzpop_any (hb g K n cap : Nat) (f : Nat → Pk) (w : World) (hK : n < K) (hK2 : K ≤ 4097) (hne : hb ≠ g) (hv : Lies w hb #[.slice (some ⟨g, 0, none⟩) (n + 1) cap] 43)
    (y : BlkTo w 46 g (5 * K) (5 * K) (hc f)) (hcap : n + 1 ≤ cap) :
    Calls Try.prog 26 #[.pointer (some ⟨hb, 0, none⟩)] w fun e w' => e = .returned (.agg #[.int .i64 (f 0).seq, .int .u32 (f 0).ts, .bool (f 0).mkr, .int .i64 (f 0).sz, .slice (f 0).pa (f 0).pl (f 0).pc]) ∧ After w w' hb g K (.slice (some ⟨g, 0, none⟩) n cap) (popF f n) := by
  have hgl := y.lt
  have hbl := hv.lt
  go_enter Try.func26, Try.ntmps26
  go_wp2_with fail
  refine (pop_any hb g K n cap f _ hK hK2 hne (hv.alloc _) (y.alloc _) hcap).mono ?_
  rintro e w1 ⟨rfl, hA⟩
  have hR : Lies w1 w.heap.size zPk.arr 46 := (Lies.new w zPk.arr 46).of_block (hA.block w.heap.size (by simp) (by omega) (by omega))
  obtain ⟨r0, r1, r2, r3, r4⟩ := hR.pk
  have fr : ∀ o, w1.frozen? ⟨w.heap.size, o, none⟩ = false := hR.frozen
  go_wp2
  refine bodyPost_ret (v := .agg #[.int .i64 (f 0).seq, .int .u32 (f 0).ts, .bool (f 0).mkr, .int .i64 (f 0).sz, .slice (f 0).pa (f 0).pl (f 0).pc]) (by simp [results, Try.results26, go_sem, r0, r1, r2, r3, r4]) rfl ⟨rfl, ?_⟩
  exact hA.over hbl hgl (f 0).cs

end Go.Proofs.Qxb6605570a
