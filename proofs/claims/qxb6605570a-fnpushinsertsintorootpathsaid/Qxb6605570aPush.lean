import Derived.Test.Qxb6605570aPsh
namespace Go.Proofs.Qxb6605570a
open Go.RowKit

/-- The sift up of push, with fuel. -/
def siftU (p : Pk) : Nat → (Nat → Pk) → Nat → (Nat → Pk)
  | 0, f, i => upd f i p
  | n + 1, f, i => if i = 0 ∨ (f ((i - 1) / 2)).seq ≤ p.seq then upd f i p else siftU p n (upd f i (f ((i - 1) / 2))) ((i - 1) / 2)
theorem siftU_stop {p : Pk} {n i : Nat} {f : Nat → Pk} (h : i = 0 ∨ (f ((i - 1) / 2)).seq ≤ p.seq) : siftU p n f i = upd f i p := by
  cases n with
  | zero => rfl
  | succ n => rw [siftU, if_pos h]
theorem siftU_go {p : Pk} {n i u : Nat} {f : Nat → Pk} (hu : (i - 1) / 2 = u) (h : ¬ (i = 0 ∨ (f u).seq ≤ p.seq)) : siftU p (n + 1) f i = siftU p n (upd f i (f u)) u := by
  subst hu
  rw [siftU, if_neg h]

/-- The world behind push. -/
structure PEnd (w wd : World) (hb g k g' cap' K1 : Nat) (row : Option Nat) (p : Pk) (zf : Nat → Int) (f : Nat → Pk) : Prop where
  os : wd.os = w.os
  tape : wd.tape = w.tape
  output : wd.output = w.output
  size : w.heap.size ≤ wd.heap.size
  block : ∀ j, j < w.heap.size → j ≠ g → j ≠ hb → some j ≠ row → wd.heap[j]? = w.heap[j]?
  pay : PayOwn wd p.pa p.pl p.pc zf
  payb : ∀ y, p.pa = some y → row = some y.block ∨ w.heap.size ≤ y.block
  hcell : Lies wd hb #[.slice (some ⟨g', 0, none⟩) (k + 1) cap'] 43
  heap : BlkTo wd 46 g' (5 * cap') (5 * K1) (hc f)
  fits : k + 1 ≤ K1 ∧ K1 ≤ cap'

/-- Where the heap lies behind push: it had room, or it has grown. -/
def Grew (w : World) (g k cap g' cap' K1 : Nat) : Prop := (k < cap ∧ g' = g ∧ cap' = cap ∧ K1 = cap) ∨ (cap = k ∧ w.heap.size ≤ g' ∧ K1 = k + 1)

theorem PMid.fin {w wd : World} {hb g k g' cap' K1 : Nat} {row : Option Nat} {p : Pk} {zf : Nat → Int} {f : Nat → Pk} (h : PMid w wd hb g k g' cap' K1 row p zf f) (hb1 : hb < w.heap.size) (hrow : ∀ j, row = some j → j < w.heap.size) (vs : List Value) :
    PEnd w (wd.setCells (w.heap.size + 1) 0 vs) hb g k g' cap' K1 row p zf f := by
  obtain ⟨e1, e2, e3⟩ := setCells_rest wd (w.heap.size + 1) 0 vs
  have e4 := setCells_size wd (w.heap.size + 1) 0 vs
  have e5 := setCells_block wd (w.heap.size + 1) 0 vs
  generalize wd.setCells (w.heap.size + 1) 0 vs = W3 at e1 e2 e3 e4 e5 ⊢
  refine ⟨e1.trans h.os, e2.trans h.tape, e3.trans h.output, by have := h.size; omega, fun j hj a b c => (e5 j (by omega)).trans (h.block j hj a b c), h.pay.of_block (fun y hy => e5 _ ?_), fun y hy => (h.payb y hy).imp id (fun q => by omega), h.hcell.of_block (e5 _ (by omega)), h.heap.of_block (e5 _ h.far.2.2), h.fits⟩
  rcases h.payb y hy with q | q
  · have := hrow _ q; omega
  · omega

theorem PMid.h0 {w wd : World} {hb g k g' cap' K1 : Nat} {row : Option Nat} {p : Pk} {zf : Nat → Int} {f : Nat → Pk} (h : PMid w wd hb g k g' cap' K1 row p zf f) : wd.cell? ⟨hb, 0, none⟩ = some (.slice (some ⟨g', 0, none⟩) (k + 1) cap') := h.hcell.cell 0

set_option maxHeartbeats 1000000 in
set_option maxRecDepth 100000 in
theorem push_any (hb g k cap : Nat) (f : Nat → Pk) (p : Pk) (zf : Nat → Int) (row : Option Nat) (w : World) (hk : k ≤ cap) (hcap : cap ≤ 4096) (hne : hb ≠ g) (hv : Lies w hb #[.slice (some ⟨g, 0, none⟩) k cap] 43) (y : BlkTo w 46 g (5 * cap) (5 * cap) (hc f))
    (hrow : ∀ j, row = some j → j < w.heap.size ∧ j ≠ hb ∧ j ≠ g)
    (hkept : ∀ W, (∀ j, j < w.heap.size → W.heap[j]? = w.heap[j]?) → w.heap.size ≤ W.heap.size → Calls Try.prog 34 #[.slice (some ⟨g, 0, none⟩) k cap, .slice p.pa p.pl p.pc] W fun e w' => ∃ a' c', e = .returned (.slice a' p.pl c') ∧ PayOwn w' a' p.pl c' zf ∧ W.grownBy w' row ∧ ∀ y, a' = some y → row = some y.block ∨ y.block = W.heap.size) :
    Calls Try.prog 30 #[.pointer (some ⟨hb, 0, none⟩), .agg #[.int .i64 p.seq, .int .u32 p.ts, .bool p.mkr, .int .i64 p.sz, .slice p.pa p.pl p.pc]] w fun e w' =>
      ∃ a' c' g' cap' K1, e = .returned (.agg #[.int .i64 p.seq, .int .u32 p.ts, .bool p.mkr, .int .i64 p.sz, .slice a' p.pl c']) ∧ Grew w g k cap g' cap' K1 ∧
        PEnd w w' hb g k g' cap' K1 row ⟨p.seq, p.ts, p.mkr, p.sz, a', p.pl, c'⟩ zf (siftU ⟨p.seq, p.ts, p.mkr, p.sz, a', p.pl, c'⟩ k (upd f k ⟨p.seq, p.ts, p.mkr, p.sz, a', p.pl, c'⟩) k) := by
  have hgl := y.lt
  have hbl := hv.lt
  have HROW : Hid (_) := hrow
  have HK : Hid (_) := hkept
  clear hrow hkept
  go_enter Try.func30, Try.ntmps30
  go_upto_region 1 with fail
  generalize hW2 : (w.alloc (.cells _ 46)).alloc (.cells _ 46) = W2
  have e2 : (w.alloc (.cells p.arr 46)).alloc (.cells zPk.arr 46) = W2 := hW2
  have c0 : W2.cell? ⟨hb, 0, none⟩ = some (.slice (some ⟨g, 0, none⟩) k cap) := by rw [← e2]; exact ((hv.alloc _).alloc _).cell 0
  have c4 : W2.cell? ⟨w.heap.size, 4, none⟩ = some (.slice p.pa p.pl p.pc) := by rw [← e2]; exact ((Lies.new w p.arr 46).alloc _).cell 4
  have b2 : ∀ j, j < w.heap.size → W2.heap[j]? = w.heap[j]? := fun j hj => by rw [← e2, Below.heap_alloc _ _ _ (by simp; omega), Below.heap_alloc _ _ _ hj]
  have sz2 : w.heap.size ≤ W2.heap.size := by rw [← e2]; simp; omega
  have HK2 : Hid (_) := HK.out W2.drew b2 sz2
  have E2 : Hid (_) := e2
  clear hW2 e2 b2 sz2 HK
  go_cut [] (fun wd => ∃ a' c', Hid (PM1 w wd row ⟨p.seq, p.ts, p.mkr, p.sz, a', p.pl, c'⟩ zf))
  case first =>
    go_region_with (go_at_call 34; refine Calls.mono HK2.out ?_; rintro e w3 ⟨a', c', rfl, q1, q2, q3⟩; have HP1 : Hid (_) := pm1_pre (fun j hj => (HROW.out j hj).1) E2.out q1 q2 q3; have c5 := HP1.out.1; have c6 := HP1.out.2.1; clear q1 q2 q3)
    all_goals
      go_wp2
      go_meet
      exact ⟨a', c', HP1.out.2.2⟩
  case rest =>
    obtain ⟨a', c', HP⟩ := hcut
    clear HK2 E2 c0 c4 W2
    generalize hpp : (⟨p.seq, p.ts, p.mkr, p.sz, a', p.pl, c'⟩ : Pk) = pp at HP ⊢
    have hv1 : Lies wc hb #[.slice (some ⟨g, 0, none⟩) k cap] 43 := hv.of_block (HP.out.block hb hbl (fun e => (HROW.out hb e.symm).2.1 rfl))
    have y1 : BlkTo wc 46 g (5 * cap) (5 * cap) (hc f) := y.of_block (HP.out.block g hgl (fun e => (HROW.out g e.symm).2.2 rfl))
    go_upto_region 2 with fail
    go_cut [] (fun wd => ∃ g' cap' K1, Hid (Grew w g k cap g' cap' K1 ∧ PMid w wd hb g k g' cap' K1 row pp zf (upd f k pp)))
    case first =>
      obtain ⟨i, hi, hz0, hz1, hz2⟩ := info_parts Try.info46
      have c0 := hv1.cell 0
      have fr := hv1.frozen 0
      have hbw := hv1.lt
      simp at c0
      have bx := HP.out.pbox
      obtain ⟨x0, x1, x2, x3, x4⟩ := bx.pk
      clear bx
      by_cases hkc : k < cap
      · have hroom : k + 1 ≤ cap := hkc
        have Y1 : Hid (_) := spare_of (p := pp) ((BlkTo.alloc (w := wc.drew) y1 (.cells pp.arr 46)).less (show 5 * k ≤ 5 * cap by omega)) hkc
        have NW : Hid (_) := news_alloc wc.drew pp
        have QQ : Hid (∀ W3, (wc.drew.alloc (.cells pp.arr 46)).setCells g (0 + k * 5) pp.cs = W3 → W3.cell? ⟨hb, 0, none⟩ = some (.slice (some ⟨g, 0, none⟩) k cap) ∧ W3.frozen? ⟨hb, 0, none⟩ = false ∧ PMid w (W3.setCell ⟨hb, 0, none⟩ (.slice (some ⟨g, 0, none⟩) (k + 1) cap)) hb g k g cap cap row pp zf (upd f k pp)) := by
          intro W3 hW3
          have q1 : Lies W3 hb #[.slice (some ⟨g, 0, none⟩) k cap] 43 := by
            rw [← hW3]
            exact (Lies.alloc (w := wc.drew) hv1 _).of_block (setCells_block _ g _ _ _ hne)
          refine ⟨q1.cell 0, q1.frozen 0, ?_⟩
          rw [← hW3]
          exact pm2_room HP.out.drew hbl hgl hne hv1 y1 hkc
        go_region_law (refine step_append_room rfl (.tmp 18) (.tmp 20) 43 rfl 46 i 5 Try.underlying43 hi hz1 g 0 k cap rfl ⟨wc.heap.size, 0, none⟩ 1 1 (Pk.cs pp) rfl rfl NW.out (cs_one _) hroom Y1.out ?_; generalize hW3 : World.setCells _ _ _ _ = W3; have Q3 : Hid (_) := QQ.out W3 hW3; have c5 := Q3.out.1; have c6 := Q3.out.2.1; clear hW3)
        all_goals
          go_wp2
          go_meet
          exact ⟨g, cap, cap, Or.inl ⟨hkc, rfl, rfl, rfl⟩, Q3.out.2.2⟩
      · have ek : cap = k := by omega
        subst ek
        have Y1 : Hid (∀ b, (some ⟨g, 0, none⟩ : Option Addr) = some b → ∀ j u, ((List.range (5 * cap)).map (hc f))[j]? = some u → (wc.drew.alloc (.cells pp.arr 46)).cell? (b.add j) = some u) := by
          intro b hb' j u hu
          cases hb'
          rw [show (⟨g, 0, none⟩ : Addr).add j = ⟨g, j, none⟩ from by unfold Addr.add; split <;> simp_all]
          by_cases hj : j < 5 * cap
          · rw [List.getElem?_map, List.getElem?_range hj] at hu
            rw [← hu]
            exact (BlkTo.alloc (w := wc.drew) y1 _).cell hj
          · rw [List.getElem?_eq_none (by simp; omega)] at hu; cases hu
        have NW : Hid (_) := news_alloc wc.drew pp
        have L1 : Hid (((List.range (5 * cap)).map (hc f)).length = cap * 5) := by show _ = _; simp; omega
        have L2 : Hid (cap < cap + 1) := by show _ < _; omega
        have L3 : Hid (cap + 1 ≤ maxLen) := by show _ ≤ _; unfold maxLen; omega
        have L4 : Hid ((cap + 1) * 48 ≤ 140737488355328) := by show _ ≤ _; omega
        have L5 : Hid ((some (⟨g, 0, none⟩ : Addr)) = none → cap = 0 ∧ cap = 0) := fun h => by cases h
        go_region_law (refine step_append_grows rfl (.tmp 18) (.tmp 20) 43 rfl 46 i _ 5 48 Try.underlying43 hi hz0 hz1 hz2 rfl (Nat.succ_pos 4) (some ⟨g, 0, none⟩) cap cap ((List.range (5 * cap)).map (hc f)) rfl L5.out L1.out Y1.out ⟨wc.heap.size, 0, none⟩ 1 1 (Pk.cs pp) rfl rfl NW.out (cs_one _) L2.out L3.out L4.out ?_; intro v' w4 hown hgr; obtain ⟨g', cap', rfl, hge, c5, c6, hpm⟩ := pm2_grow (g := g) HP.out.drew hbl hv1 hown hgr; have Q3 : Hid (_) := And.intro hge hpm; clear hown hgr hpm)
        all_goals
          go_wp2
          go_meet
          exact ⟨g', cap', cap + 1, Or.inr ⟨rfl, Q3.out.1, rfl⟩, Q3.out.2⟩
    case rest =>
      obtain ⟨g', cap', K1, HG⟩ := hcut
      clear HP hv1 y1
      have c0 := HG.out.2.h0
      obtain ⟨hk1, hk2⟩ := HG.out.2.fits
      have hgg : g' = g ∨ w.heap.size ≤ g' := by rcases HG.out.1 with h | h <;> omega
      go_upto_block 0 with fail
      clear c0
      have HR0 : Hid (_) := HG.out.1
      have HM0 : Hid (_) := HG.out.2
      clear HG
      go_cut [6] (fun x wd => ∃ (i : Nat) (fk : Nat → Pk), x = .int .i64 i ∧ i ≤ k ∧ Hid (PMid w wd hb g k g' cap' K1 row pp zf fk) ∧ Hid (upd fk i pp = siftU pp k (upd f k pp) k))
      case first =>
        go_wp2
        go_loopw [6] (fun x wd => ∃ (i : Nat) (fk : Nat → Pk) (fuel : Nat), i ≤ k ∧ i ≤ fuel ∧ x = .int .i64 i ∧ Hid (PMid w wd hb g k g' cap' K1 row pp zf fk) ∧ Hid (siftU pp fuel fk i = siftU pp k (upd f k pp) k)) (fun x _ => (intOf x).toNat)
        case atStart => exact ⟨k, _, k, Nat.le_refl _, Nat.le_refl _, by go_num, HM0, rfl⟩
        case round =>
          clear HM0
          obtain ⟨i, fk, fuel, hik, hfu, rfl, HX, HS⟩ := hrel
          by_cases h0 : i = 0
          · subst h0
            go_wp2
            go_meet
            exact ⟨0, fk, rfl, Nat.zero_le _, HX, by show _ = _; rw [← HS.out, siftU_stop (Or.inl rfl)]⟩
          · obtain ⟨fuel, rfl⟩ : ∃ m, fuel = m + 1 := ⟨fuel - 1, by omega⟩
            obtain ⟨u, hu⟩ : ∃ u, (i - 1) / 2 = u := ⟨_, rfl⟩
            have hui : u < i := by omega
            have eu : ((i : Int) - 1) / 2 = (u : Int) := by omega
            have HU : Hid (_) := hu
            clear hu
            obtain ⟨p0, p1, p2, p3, p4⟩ := HX.out.heap.pk (show u < K1 by omega)
            obtain ⟨r0, r1, r2, r3, r4⟩ := HX.out.pbox.pk
            have z0 : (0 : Int) < (i : Int) := by omega
            have z1 : (u : Int) < (k : Int) + 1 := by omega
            have z2 : (i : Int) < (k : Int) + 1 := by omega
            by_cases h3 : (fk u).seq ≤ pp.seq
            · go_wp2
              go_quiet (fail)
              go_wp2
              go_meet
              exact ⟨i, fk, rfl, hik, HX.out.drewN _, by show _ = _; rw [← HS.out, siftU_stop (Or.inr (by rw [HU.out]; exact h3))]⟩
            · go_wp2
              go_quiet (fail)
              go_wp2_with (refine wpList_store_mid rfl 46 (.tmp 48) (.tmp 47) rfl g' (i * 5) (Pk.arr (fk u)) rfl rfl (HX.out.heap.there5 (show i < cap' by omega)) info46s (Pk.arr_one _) ?_)
              go_roundw
              case rel => exact ⟨u, upd fk i (fk u), fuel, by omega, by omega, rfl, (HX.out.drewN _).store hgg i (fk u), by show _ = _; rw [← HS.out, siftU_go HU.out (by omega)]⟩
              case measure => simp [intOf]; omega
      case rest =>
        obtain ⟨i, fk, rfl, hik, HX, HF⟩ := hcut
        clear HM0
        obtain ⟨l0, l1, l2, l3, l4⟩ := HX.out.pbox.pk
        have z1 : (i : Int) < (k : Int) + 1 := by omega
        have HTH : Hid (wc.there g' (i * 5) 5) := HX.out.heap.there5 (show i < cap' by omega)
        go_upto_region 10 with fail
        go_cut [] (fun wd => Hid (PMid w wd hb g k g' cap' K1 row pp zf (upd fk i pp)))
        case first =>
          go_wp2_with (refine wpList_store_mid rfl 46 (.tmp 53) (.tmp 52) rfl g' (i * 5) (Pk.arr pp) rfl rfl HTH.out info46s (Pk.arr_one _) ?_)
          go_meet
          exact HX.out.store hgg i pp
        case rest =>
          have HY := hcut
          clear hcut HX HTH l0 l1 l2 l3 l4
          obtain ⟨p0, p1, p2, p3, p4⟩ := HY.out.pbox.pk
          obtain ⟨r0, r1, r2, r3, r4⟩ := HY.out.res.pk
          have fr : ∀ o, wc.frozen? ⟨w.heap.size + 1, o, none⟩ = false := HY.out.res.frozen
          go_wp2
          subst hpp
          refine bodyPost_ret (v := .agg #[.int .i64 p.seq, .int .u32 p.ts, .bool p.mkr, .int .i64 p.sz, .slice a' p.pl c']) (by simp [results, Try.results30, go_sem, r0, r1, r2, r3, r4]) rfl ⟨a', c', g', cap', K1, rfl, HR0.out, ?_⟩
          rw [← HF.out]
          exact HY.out.fin hbl (fun j hj => (HROW.out j hj).1) (Pk.cs ⟨p.seq, p.ts, p.mkr, p.sz, a', p.pl, c'⟩)

end Go.Proofs.Qxb6605570a
