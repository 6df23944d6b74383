import Derived.Test.Qxb6605570aPush
namespace Go.Proofs.Qxb6605570a
open Go.RowKit

theorem PEnd.over {w W2 wd : World} {hb g k g' cap' K1 : Nat} {row : Option Nat} {p : Pk} {zf : Nat → Int} {f : Nat → Pk} (h : PEnd W2 wd hb g k g' cap' K1 row p zf f) (hb1 : hb < w.heap.size) (hgg : g' = g ∧ g < w.heap.size ∨ W2.heap.size ≤ g') (hrow : ∀ j, row = some j → j < w.heap.size)
    (o1 : W2.os = w.os) (o2 : W2.tape = w.tape) (o3 : W2.output = w.output) (o4 : W2.heap.size = w.heap.size + 1 + 1) (o5 : ∀ j, j < w.heap.size → W2.heap[j]? = w.heap[j]?) (vs : List Value) :
    PEnd w (wd.setCells (w.heap.size + 1) 0 vs) hb g k g' cap' K1 row p zf f := by
  obtain ⟨e1, e2, e3⟩ := setCells_rest wd (w.heap.size + 1) 0 vs
  have e4 := setCells_size wd (w.heap.size + 1) 0 vs
  have e5 := setCells_block wd (w.heap.size + 1) 0 vs
  generalize wd.setCells (w.heap.size + 1) 0 vs = W3 at e1 e2 e3 e4 e5 ⊢
  refine ⟨e1.trans (h.os.trans o1), e2.trans (h.tape.trans o2), e3.trans (h.output.trans o3), by have := h.size; omega, fun j hj a b c => (e5 j (by omega)).trans ((h.block j (by omega) a b c).trans (o5 j hj)), h.pay.of_block (fun y hy => e5 _ ?_), fun y hy => (h.payb y hy).imp id (fun q => by omega), h.hcell.of_block (e5 _ (by omega)), h.heap.of_block (e5 _ (by omega)), h.fits⟩
  rcases h.payb y hy with q | q
  · have := hrow _ q; omega
  · omega

set_option maxHeartbeats 1000000 in
set_option maxRecDepth 100000 in
theorem zzpush_any (hb g k cap : Nat) (f : Nat → Pk) (p : Pk) (zf : Nat → Int) (row : Option Nat) (w : World) (hk : k ≤ cap) (hcap : cap ≤ 4096) (hne : hb ≠ g) (hv : Lies w hb #[.slice (some ⟨g, 0, none⟩) k cap] 43) (y : BlkTo w 46 g (5 * cap) (5 * cap) (hc f))
    (hrow : ∀ j, row = some j → j < w.heap.size ∧ j ≠ hb ∧ j ≠ g)
    (hkept : ∀ W, (∀ j, j < w.heap.size → W.heap[j]? = w.heap[j]?) → w.heap.size ≤ W.heap.size → Calls Try.prog 34 #[.slice (some ⟨g, 0, none⟩) k cap, .slice p.pa p.pl p.pc] W fun e w' => ∃ a' c', e = .returned (.slice a' p.pl c') ∧ PayOwn w' a' p.pl c' zf ∧ W.grownBy w' row ∧ ∀ y, a' = some y → row = some y.block ∨ y.block = W.heap.size) :
    Calls Try.prog 21 #[.pointer (some ⟨hb, 0, none⟩), .agg #[.int .i64 p.seq, .int .u32 p.ts, .bool p.mkr, .int .i64 p.sz, .slice p.pa p.pl p.pc]] w fun e w' =>
      ∃ a' c' g' cap' K1, e = .returned (.agg #[.int .i64 p.seq, .int .u32 p.ts, .bool p.mkr, .int .i64 p.sz, .slice a' p.pl c']) ∧ Grew w g k cap g' cap' K1 ∧
        PEnd w w' hb g k g' cap' K1 row ⟨p.seq, p.ts, p.mkr, p.sz, a', p.pl, c'⟩ zf (siftU ⟨p.seq, p.ts, p.mkr, p.sz, a', p.pl, c'⟩ k (upd f k ⟨p.seq, p.ts, p.mkr, p.sz, a', p.pl, c'⟩) k) := by
  have hgl := y.lt
  have hbl := hv.lt
  have HROW : Hid (_) := hrow
  have HK : Hid (_) := hkept
  clear hrow hkept
  obtain ⟨W2, e2⟩ : ∃ W2, (w.alloc (.cells p.arr 46)).alloc (.cells zPk.arr 46) = W2 := ⟨_, rfl⟩
  have b2 : ∀ j, j < w.heap.size → W2.heap[j]? = w.heap[j]? := fun j hj => by rw [← e2, Below.heap_alloc _ _ _ (by simp; omega), Below.heap_alloc _ _ _ hj]
  have sz2 : W2.heap.size = w.heap.size + 1 + 1 := by rw [← e2]; simp
  have o1 : W2.os = w.os := by rw [← e2]; rfl
  have o2 : W2.tape = w.tape := by rw [← e2]; rfl
  have o3 : W2.output = w.output := by rw [← e2]; rfl
  have lb : Lies W2 (w.heap.size + 1) zPk.arr 46 := by
    rw [← e2]
    have := Lies.new (w.alloc (.cells p.arr 46)) zPk.arr 46
    simpa using this
  have main := push_any hb g k cap f p zf row W2 hk hcap hne (hv.of_block (b2 _ hbl)) (y.of_block (b2 _ hgl)) (fun j hj => by have := HROW.out j hj; exact ⟨by omega, this.2⟩) (fun W h1 h2 => HK.out W (fun j hj => (h1 j (by omega)).trans (b2 j hj)) (by omega))
  go_enter Try.func21, Try.ntmps21
  go_wp2_with fail
  have e2' := e2
  unfold zPk Pk.arr at e2'
  simp only at e2'
  rw [e2']
  refine Calls.mono main ?_
  rintro e w1 ⟨a', c', g', cap', K1, rfl, hG, hE⟩
  have hR : Lies w1 (w.heap.size + 1) zPk.arr 46 := lb.of_block (hE.block (w.heap.size + 1) (by omega) (by omega) (by omega) (fun e => by have := HROW.out _ e.symm; omega))
  obtain ⟨r0, r1, r2, r3, r4⟩ := hR.pk
  have fr : ∀ o, w1.frozen? ⟨w.heap.size + 1, o, none⟩ = false := hR.frozen
  clear e2 e2' main
  go_wp2
  refine bodyPost_ret (v := .agg #[.int .i64 p.seq, .int .u32 p.ts, .bool p.mkr, .int .i64 p.sz, .slice a' p.pl c']) (by simp [results, Try.results21, go_sem, r0, r1, r2, r3, r4]) rfl ⟨a', c', g', cap', K1, rfl, ?_, ?_⟩
  · rcases hG with h | ⟨h1, h2, h3⟩
    · exact Or.inl h
    · exact Or.inr ⟨h1, by omega, h3⟩
  · refine hE.over hbl ?_ (fun j hj => (HROW.out j hj).1) o1 o2 o3 sz2 b2 (Pk.cs ⟨p.seq, p.ts, p.mkr, p.sz, a', p.pl, c'⟩)
    rcases hG with h | ⟨h1, h2, h3⟩
    · exact Or.inl ⟨h.2.1, hgl⟩
    · exact Or.inr h2

/-- With a slot left. -/
theorem zzpush_room (hb g k cap : Nat) (f : Nat → Pk) (p : Pk) (zf zs : Nat → Int) (w : World) (hk : k < cap) (hcap : cap ≤ 4096) (hne : hb ≠ g) (hv : Lies w hb #[.slice (some ⟨g, 0, none⟩) k cap] 43) (y : BlkTo w 46 g (5 * cap) (5 * cap) (hc f))
    (hs : PayOwn w (f k).pa (f k).pl (f k).pc zs) (hr : RowAt w p.pa p.pl p.pc fun i => .int .u8 (zf i)) (hl : p.pl ≤ 1048576) :
    Calls Try.prog 21 #[.pointer (some ⟨hb, 0, none⟩), .agg #[.int .i64 p.seq, .int .u32 p.ts, .bool p.mkr, .int .i64 p.sz, .slice p.pa p.pl p.pc]] w fun e w' =>
      ∃ a' c', e = .returned (.agg #[.int .i64 p.seq, .int .u32 p.ts, .bool p.mkr, .int .i64 p.sz, .slice a' p.pl c']) ∧
        PEnd w w' hb g k g cap cap ((f k).pa.map (·.block)) ⟨p.seq, p.ts, p.mkr, p.sz, a', p.pl, c'⟩ zf (siftU ⟨p.seq, p.ts, p.mkr, p.sz, a', p.pl, c'⟩ k (upd f k ⟨p.seq, p.ts, p.mkr, p.sz, a', p.pl, c'⟩) k) := by
  refine Calls.mono (zzpush_any hb g k cap f p zf ((f k).pa.map (·.block)) w (by omega) hcap hne hv y ?_ ?_) ?_
  · intro j hj
    cases hpa : (f k).pa with
    | none => rw [hpa] at hj; cases hj
    | some x => rw [hpa] at hj; cases hj; exact ⟨hs.lt x hpa, hs.not43 hv x hpa, hs.not46 y x hpa⟩
  · intro W h1 h2
    exact kept_room g k cap f p.pa p.pl p.pc zf zs W hk (by omega) (y.of_block (h1 _ y.lt)) (hs.of_block fun x hx => h1 _ (hs.lt x hx)) (hr.of_block fun x hx hp => h1 _ (by
      obtain ⟨b, o, e1, e3, _⟩ := hr.pos hp
      rw [e1] at hx; cases hx; exact e3)) hl
  · rintro e w' ⟨a', c', g', cap', K1, rfl, hG, hE⟩
    rcases hG with ⟨_, rfl, rfl, rfl⟩ | ⟨h1, _⟩
    · exact ⟨a', c', rfl, hE⟩
    · omega

/-- Into a heap that is full. -/
theorem zzpush_full (hb g k : Nat) (f : Nat → Pk) (p : Pk) (zf : Nat → Int) (w : World) (hcap : k ≤ 4096) (hne : hb ≠ g) (hv : Lies w hb #[.slice (some ⟨g, 0, none⟩) k k] 43) (y : BlkTo w 46 g (5 * k) (5 * k) (hc f))
    (hr : RowAt w p.pa p.pl p.pc fun i => .int .u8 (zf i)) (hl : p.pl ≤ 1048576) :
    Calls Try.prog 21 #[.pointer (some ⟨hb, 0, none⟩), .agg #[.int .i64 p.seq, .int .u32 p.ts, .bool p.mkr, .int .i64 p.sz, .slice p.pa p.pl p.pc]] w fun e w' =>
      ∃ a' c' g' cap', e = .returned (.agg #[.int .i64 p.seq, .int .u32 p.ts, .bool p.mkr, .int .i64 p.sz, .slice a' p.pl c']) ∧ w.heap.size ≤ g' ∧
        PEnd w w' hb g k g' cap' (k + 1) none ⟨p.seq, p.ts, p.mkr, p.sz, a', p.pl, c'⟩ zf (siftU ⟨p.seq, p.ts, p.mkr, p.sz, a', p.pl, c'⟩ k (upd f k ⟨p.seq, p.ts, p.mkr, p.sz, a', p.pl, c'⟩) k) := by
  refine Calls.mono (zzpush_any hb g k k f p zf none w (by omega) hcap hne hv y ?_ ?_) ?_
  · intro j hj; cases hj
  · intro W h1 h2
    refine Calls.mono (kept_full (some ⟨g, 0, none⟩) k p.pa p.pl p.pc zf W (hr.of_block fun x hx hp => h1 _ (by
      obtain ⟨b, o, e1, e3, _⟩ := hr.pos hp
      rw [e1] at hx; cases hx; exact e3)) hl) ?_
    rintro e w' ⟨a', c', rfl, q1, q2, q3⟩
    exact ⟨a', c', rfl, q1, q2, fun y hy => Or.inr (q3 y hy)⟩
  · rintro e w' ⟨a', c', g', cap', K1, rfl, hG, hE⟩
    rcases hG with ⟨h1, _⟩ | ⟨_, h2, rfl⟩
    · omega
    · exact ⟨a', c', g', cap', rfl, h2, hE⟩

end Go.Proofs.Qxb6605570a
