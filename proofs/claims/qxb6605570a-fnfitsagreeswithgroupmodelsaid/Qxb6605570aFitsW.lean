import Derived.Test.Qxb6605570aGroup
import Derived.Deep.RegionHeld3
import Derived.Deep.DeepCutAuto
import Derived.Deep.CutBlock
import Derived.Deep.Light
namespace Go.Proofs.Qxb6605570a
open Go.RowKit

set_option maxHeartbeats 400000 in
theorem bytes7_any (a0 a1 a2 a3 : Option Addr) (l0 l1 l2 l3 c0 c1 c2 c3 : Nat) (x y : Int) (w : World) (h0 : l0 ≤ 2 ^ 63 - 1) (h1 : l1 ≤ 2 ^ 63 - 1) (h2 : l2 ≤ 2 ^ 63 - 1) (h3 : l3 ≤ 2 ^ 63 - 1) :
    Calls Try.prog 7 #[.slice a0 l0 c0, .slice a1 l1 c1, .slice a2 l2 c2, .slice a3 l3 c3, .int .i64 x, .int .i64 y] w fun e w' => e = .returned (.bool (decide (l0 + l1 + l2 + l3 ≤ 1048576))) ∧ w' = w := by
  go_enter Try.func7, Try.ntmps7
  go_wp2
  all_goals
    go_ret
    refine ⟨ret_bool ?_, rfl⟩
    rw [eq_comm]
    simp
    omega

/-- The world of the law's main loop: the four clones, and what has been taken. -/
structure WFit (wc wr : World) (g0 g1 g2 g3 ga l0 l1 l2 l3 n : Nat) (S T : Nat → Int) (M : Nat → Bool) (Z : Nat → Int) (A : List Nat) : Prop where
  below : Below wc.heap.size wc wr
  k0 : BlkTo wr 2 g0 l0 l0 fun i => .int .i64 (S i)
  k1 : BlkTo wr 32 g1 l1 l1 fun i => .int .u32 (T i)
  k2 : BlkTo wr 4 g2 l2 l2 fun i => .bool (M i)
  k3 : BlkTo wr 3 g3 l3 l3 fun i => .int .i64 (Z i)
  acc : wr.ownsRow wc.heap.size 3 1 (.slice (some ⟨ga, 0, none⟩) A.length n) A.length (A.map fun j : Nat => Value.int .i64 (j : Int))

theorem WFit.at_acc {wc wr : World} {g0 g1 g2 g3 ga l0 l1 l2 l3 n : Nat} {S T : Nat → Int} {M : Nat → Bool} {Z : Nat → Int} {A : List Nat} {k a : Nat} (h : WFit wc wr g0 g1 g2 g3 ga l0 l1 l2 l3 n S T M Z A) (hk : ∀ a ∈ A, a < k) (ha : a < A.length) :
    ∃ j, A.getD a 0 = j ∧ j < k ∧ wr.cell? ⟨ga, a, none⟩ = some (.int .i64 (j : Int)) := by
  refine ⟨A.getD a 0, rfl, hk _ ?_, ?_⟩
  · rw [List.getD_eq_getElem?_getD, List.getElem?_eq_getElem ha]; exact List.getElem_mem ha
  · rw [h.acc.cellAt a (by omega), List.getElem?_map, List.getD_eq_getElem?_getD, List.getElem?_eq_getElem ha]; rfl

theorem WFit.drewN {wc wr : World} {g0 g1 g2 g3 ga l0 l1 l2 l3 n : Nat} {S T : Nat → Int} {M : Nat → Bool} {Z : Nat → Int} {A : List Nat} (h : WFit wc wr g0 g1 g2 g3 ga l0 l1 l2 l3 n S T M Z A) (q : Nat) : WFit wc (wr.drewN q) g0 g1 g2 g3 ga l0 l1 l2 l3 n S T M Z A :=
  ⟨below_drewN h.below q, h.k0.of_block rfl, h.k1.of_block rfl, h.k2.of_block rfl, h.k3.of_block rfl, h.acc⟩
theorem bcell {W w1 : World} (hb : Below W.heap.size W w1) : (∀ b o, b < W.heap.size → w1.cell? ⟨b, o, none⟩ = W.cell? ⟨b, o, none⟩) ∧ (∀ b o, b < W.heap.size → w1.frozen? ⟨b, o, none⟩ = W.frozen? ⟨b, o, none⟩) :=
  ⟨fun b o h => hb.cell (p := ⟨b, o, none⟩) h, fun b o h => hb.frozen (p := ⟨b, o, none⟩) h⟩
theorem WFit.later {wc wr w' : World} {g0 g1 g2 g3 ga l0 l1 l2 l3 n : Nat} {S T : Nat → Int} {M : Nat → Bool} {Z : Nat → Int} {A : List Nat} (h : WFit wc wr g0 g1 g2 g3 ga l0 l1 l2 l3 n S T M Z A) (hb : Below wr.heap.size wr w') : WFit wc w' g0 g1 g2 g3 ga l0 l1 l2 l3 n S T M Z A :=
  ⟨h.below.trans (hb.mono h.below.size), h.k0.below hb h.k0.lt, h.k1.below hb h.k1.lt, h.k2.below hb h.k2.lt, h.k3.below hb h.k3.lt,
    h.acc.kept (row := none) ⟨hb.os, hb.tape, hb.output, hb.size, fun k hk _ => hb.block k hk⟩ (Or.inr (by simp [Value.ownBlock]))⟩

theorem mem_snoc {A : List Nat} {k : Nat} (h : ∀ a ∈ A, a < k) : ∀ a ∈ A ++ [k], a < k + 1 := by
  intro a ha
  rcases List.mem_append.1 ha with ha | ha
  · have := h a ha; omega
  · simp at ha; omega
theorem WFit.push {wc wr w9 : World} {g0 g1 g2 g3 ga l0 l1 l2 l3 n k : Nat} {S T : Nat → Int} {M : Nat → Bool} {Z : Nat → Int} {A : List Nat} {o : Obj} (h : WFit wc wr g0 g1 g2 g3 ga l0 l1 l2 l3 n S T M Z A)
    (e0 : g0 < ga) (e1 : g1 < ga) (e2 : g2 < ga) (e3 : g3 < ga) (hga : wc.heap.size ≤ ga)
    (hg : (wr.alloc o).grownBy w9 (some ga)) (ho : w9.ownsRow wc.heap.size 3 1 (.slice (some ⟨ga, 0, none⟩) (A.length + 1) n) (A.length + 1) ((A.map fun j : Nat => Value.int .i64 (j : Int)) ++ [.int .i64 (k : Int)])) :
    WFit wc w9 g0 g1 g2 g3 ga l0 l1 l2 l3 n S T M Z (A ++ [k]) := by
  have hb : ∀ g, g < ga → g < wr.heap.size → w9.heap[g]? = wr.heap[g]? := by
    intro g h1 h2
    rw [hg.block g (by simp; omega) (by simp; omega), Below.heap_alloc wr o g h2]
  refine ⟨?_, h.k0.of_block (hb g0 e0 h.k0.lt), h.k1.of_block (hb g1 e1 h.k1.lt), h.k2.of_block (hb g2 e2 h.k2.lt), h.k3.of_block (hb g3 e3 h.k3.lt), ?_⟩
  · exact (h.below.alloc h.below.size o).grown hg (by have := h.below.size; simp; omega) (fun k hk => by cases hk; exact hga)
  · rw [List.length_append, List.map_append]; exact ho

theorem zzfits_at (n bytes ts last : Int) (lm : Bool) (seq pts : Int) (mk : Bool) (size fr limit : Int) (w : World) {p0 p1 p2 p3 : Addr} {x0 x1 x2 x3 : Value}
    (q0 : w.cell? p0 = some x0) (q1 : w.cell? p1 = some x1) (q2 : w.cell? p2 = some x2) (q3 : w.cell? p3 = some x3)
    (b1 : 0 ≤ bytes) (b2 : bytes ≤ 4294967296) (b3 : 0 ≤ size) (b4 : size ≤ 4294967296)
    (s1 : -2305843009213693952 ≤ seq) (s2 : seq ≤ 2305843009213693952) (l1 : -2305843009213693952 ≤ last) (l2 : last ≤ 2305843009213693952) (f1 : -2305843009213693952 ≤ fr) (f2 : fr ≤ 2305843009213693952) :
    Calls Try.prog 13 #[.int .i64 n, .int .i64 bytes, .int .u32 ts, .int .i64 last, .bool lm, .int .i64 seq, .int .u32 pts, .bool mk, .int .i64 size, .int .i64 fr, .int .i64 limit] w fun e w' =>
      e = .returned (.bool (fitsB n bytes ts last lm seq pts mk size fr limit)) ∧ Below w.heap.size w w' ∧ w'.cell? p0 = some x0 ∧ w'.cell? p1 = some x1 ∧ w'.cell? p2 = some x2 ∧ w'.cell? p3 = some x3 := by
  refine (zzfits_any n bytes ts last lm seq pts mk size fr limit w b1 b2 b3 b4 s1 s2 l1 l2 f1 f2).mono ?_
  rintro e w' ⟨rfl, hb⟩
  exact ⟨rfl, hb, by rw [hb.cell (World.block_lt_of_cell? w _ q0)]; exact q0, by rw [hb.cell (World.block_lt_of_cell? w _ q1)]; exact q1, by rw [hb.cell (World.block_lt_of_cell? w _ q2)]; exact q2, by rw [hb.cell (World.block_lt_of_cell? w _ q3)]; exact q3⟩

set_option maxHeartbeats 8000000 in
set_option maxRecDepth 100000 in
theorem law_try (a0 a1 a2 a3 : Option Addr) (l0 l1 l2 l3 c0 c1 c2 c3 : Nat) (S T : Nat → Int) (M : Nat → Bool) (Z : Nat → Int) (fr lim : Int) (w : World)
    (r0 : RowAt w a0 l0 c0 fun i => .int .i64 (S i)) (r1 : RowAt w a1 l1 c1 fun i => .int .u32 (T i)) (r2 : RowAt w a2 l2 c2 fun i => .bool (M i)) (r3 : RowAt w a3 l3 c3 fun i => .int .i64 (Z i))
    (h0 : l0 ≤ 4096) (h1 : l1 ≤ 4096) (h2 : l2 ≤ 4096) (h3 : l3 ≤ 4096) (hf0 : -2305843009213693952 ≤ fr) (hf1 : fr ≤ 2305843009213693952) :
    Calls Try.prog 3 #[.slice a0 l0 c0, .slice a1 l1 c1, .slice a2 l2 c2, .slice a3 l3 c3, .int .i64 fr, .int .i64 lim] w fun e w' => e = .returned (.bool true) ∧ Below w.heap.size w w' := by
  have hz' : decide (l0 + l1 + l2 + l3 ≤ 1048576) = true := by simp; omega
  obtain ⟨n, hn⟩ : ∃ n : Nat, min4 l0 l1 l2 l3 = n := ⟨(min4 l0 l1 l2 l3).toNat, by unfold min4; omega⟩
  have hn0 : n ≤ l0 ∧ n ≤ l1 ∧ n ≤ l2 ∧ n ≤ l3 := by unfold min4 at hn; omega
  have HN : Hid (_) := hn
  clear hn
  obtain ⟨n0, n1, n2, n3⟩ := hn0
  go_enter Try.func3, Try.ntmps3
  go_upto_block 0 with (first | (go_at_call 7; refine (bytes7_any _ _ _ _ _ _ _ _ _ _ _ _ _ _ _ (by omega) (by omega) (by omega) (by omega)).mono ?_; rintro e w' ⟨rfl, rfl⟩) | (go_at_call 8; refine (min4_any _ _ _ _ _).mono ?_; rintro e w' ⟨rfl, rfl⟩; rw [HN.out]))
  clear hz'
  go_cut [] (fun wc => w' = wc ∧ Hid (∀ j, j < n → (-2305843009213693952 ≤ S j ∧ S j ≤ 2305843009213693952) ∧ 0 ≤ Z j ∧ Z j ≤ 262144))
  case first =>
    go_wp2
    go_loop [14] (fun x => ∃ k : Nat, k ≤ n ∧ x = .int .i64 k ∧ Hid (∀ j, j < k → (-2305843009213693952 ≤ S j ∧ S j ≤ 2305843009213693952) ∧ 0 ≤ Z j ∧ Z j ≤ 262144)) (fun x => n - (intOf x).toNat)
    case atStart => exact ⟨0, Nat.zero_le _, rfl, fun j hj => by omega⟩
    case round =>
      obtain ⟨k, hk, rfl, HA⟩ := hrel
      by_cases hlt : k < n
      · obtain ⟨b0, o0, rfl, q0, p0⟩ := r0.pos (by omega)
        obtain ⟨b3, o3, rfl, q3, p3⟩ := r3.pos (by omega)
        have s0 := p0 k (by omega)
        have s3 := p3 k (by omega)
        clear p0 p3
        go_wp2
        case roundEnd =>
          have u1 : -2305843009213693952 ≤ S k ∧ S k ≤ 2305843009213693952 := by assumption
          have u2 : 0 ≤ Z k ∧ Z k ≤ 262144 := by assumption
          go_round
          case rel =>
            refine ⟨k + 1, by omega, by go_num, ?_⟩
            intro j hj
            by_cases e : j = k
            · subst e; exact ⟨u1, u2⟩
            · exact HA.out j (by omega)
          case measure => simp [intOf]; omega
        all_goals
          go_ret
          exact ⟨rfl, Below.refl _ _⟩
      · go_wp2
        go_meet
        exact ⟨rfl, fun j hj => HA.out j (by omega)⟩
  case rest =>
    obtain ⟨rfl, HS⟩ := hcut
    obtain ⟨i3, hi3, hz30, hz31, hz32⟩ := info_parts Try.info3
    go_wp2_with fail
    refine (clone9_any a0 l0 c0 S _ (by omega) r0).mono ?_
    rintro e w1 ⟨v0, rfl, hb1, o0⟩
    go_wp2_with fail
    refine (clone10_any a1 l1 c1 T _ (by omega) (r1.below hb1)).mono ?_
    rintro e w2 ⟨v1, rfl, hb2, o1⟩
    go_wp2_with fail
    refine (clone11_any a2 l2 c2 M _ (by omega) ((r2.below hb1).below hb2)).mono ?_
    rintro e w3 ⟨v2, rfl, hb3, o2⟩
    go_wp2_with fail
    refine (clone12_any a3 l3 c3 Z _ (by omega) (((r3.below hb1).below hb2).below hb3)).mono ?_
    rintro e w4 ⟨v3, rfl, hb4, o3⟩
    have t2 := hb1.size
    have t3 := hb2.size
    have t4 := hb3.size
    have t5 := hb4.size
    have hB : Below w'.heap.size w' w4 := (hb1.trans (hb2.mono (by omega))).trans ((hb3.mono (by omega)).trans (hb4.mono (by omega)))
    have o0' := ((o0.below hb2 (Nat.le_refl _)).below hb3 (Nat.le_refl _)).below hb4 (Nat.le_refl _)
    have o1' := (o1.below hb3 (Nat.le_refl _)).below hb4 (Nat.le_refl _)
    have o2' := o2.below hb4 (Nat.le_refl _)
    clear o0 o1 o2 hb1 hb2 hb3 hb4 r0 r1 r2 r3
    go_wp2_with (at_make; refine wpList_make_own _ rfl _ _ 25 rfl w'.heap.size 3 i3 _ 1 Try.underlying25 hi3 hz30 hz31 _ _ _ n rfl rfl rfl (by rw [hz32]; omega) (by unfold maxLen; omega) (by omega) ?_)
    intro w5 hown hgrow
    by_cases hn : 0 < n
    · obtain ⟨g0, rfl, b0, k0⟩ := o0'.pos (by omega)
      obtain ⟨g1, rfl, b1, k1⟩ := o1'.pos (by omega)
      obtain ⟨g2, rfl, b2, k2⟩ := o2'.pos (by omega)
      obtain ⟨g3, rfl, b3, k3⟩ := o3.pos (by omega)
      have e0 := k0.lt
      have e1 := k1.lt
      have e2 := k2.lt
      have e3 := k3.lt
      generalize hga : w4.heap.size = ga at *
      clear o0' o1' o2' o3
      have hB5 : Below w'.heap.size w' w5 := hB.grown hgrow (by omega) (fun k hk => by cases hk)
      have k0' : BlkTo w5 2 g0 l0 l0 fun i => .int .i64 (S i) := k0.of_block (hgrow.block g0 (by omega) (by simp))
      have k1' : BlkTo w5 32 g1 l1 l1 fun i => .int .u32 (T i) := k1.of_block (hgrow.block g1 (by omega) (by simp))
      have k2' : BlkTo w5 4 g2 l2 l2 fun i => .bool (M i) := k2.of_block (hgrow.block g2 (by omega) (by simp))
      have k3' : BlkTo w5 3 g3 l3 l3 fun i => .int .i64 (Z i) := k3.of_block (hgrow.block g3 (by omega) (by simp))
      clear k0 k1 k2 k3 hgrow
      have HG : Hid (_) := hga
      clear hga
      go_wp2
      go_loopw [15, 16, 17, 18, 19, 20, 21] (fun acc fn fby fts fla flm ix wr => ∃ (k : Nat) (A : List Nat) (ts la : Int) (lm : Bool), k ≤ n ∧ A.length ≤ k ∧ -2305843009213693952 ≤ la ∧ la ≤ 2305843009213693952 ∧
          acc = .slice (some ⟨ga, 0, none⟩) A.length n ∧ fn = .int .i64 A.length ∧ fby = .int .i64 (sumZ Z A) ∧ fts = .int .u32 ts ∧ fla = .int .i64 la ∧ flm = .bool lm ∧ ix = .int .i64 k ∧
          Hid (GInv S T M A ts la lm ∧ ∀ a ∈ A, a < k) ∧ Hid (WFit w' wr g0 g1 g2 g3 ga l0 l1 l2 l3 n S T M Z A)) (fun _ _ _ _ _ _ ix _ => n - (intOf ix).toNat)
      case atStart => exact ⟨0, [], 0, 0, false, Nat.zero_le _, Nat.le_refl _, by decide, by decide, rfl, rfl, rfl, rfl, rfl, rfl, rfl, ⟨GInv.nil S T M, fun a h => by simp at h⟩, ⟨hB5, k0', k1', k2', k3', by simpa using hown⟩⟩
      case round =>
        obtain ⟨k, A, ts, la, lm, hk, hAk, hla1, hla2, rfl, rfl, rfl, rfl, rfl, rfl, rfl, HI, HW⟩ := hrel
        clear k0' k1' k2' k3' hown hB5
        by_cases hlt : k < n
        · go_upto_block 4 with fail
          go_cut [22] (fun d wd => d = .bool (dupB S (S k) A) ∧ Hid (WFit w' wd g0 g1 g2 g3 ga l0 l1 l2 l3 n S T M Z A))
          case first =>
            as_aux_lemma =>
              go_wp2
              go_loopw [22, 23] (fun d x wd => ∃ a : Nat, a ≤ A.length ∧ x = .int .i64 a ∧ d = .bool (dupB S (S k) (A.take a)) ∧ Hid (WFit w' wd g0 g1 g2 g3 ga l0 l1 l2 l3 n S T M Z A)) (fun _ x _ => A.length - (intOf x).toNat)
              case atStart => exact ⟨0, Nat.zero_le _, rfl, by simp [dupB], HW⟩
              case round =>
                obtain ⟨a, ha, rfl, rfl, HX⟩ := hrel
                by_cases hal : a < A.length
                · obtain ⟨j, hj, hjk, q1⟩ := HX.out.at_acc HI.out.2 hal
                  have hj0 : j < l0 := by omega
                  have q2 := HX.out.k0.cell hj0
                  have q3 := HX.out.k0.cell (show k < l0 by omega)
                  have z1 : (a : Int) < (A.length : Int) := by omega
                  have z2 : (j : Int) < (l0 : Int) := by omega
                  have z3 : (k : Int) < (l0 : Int) := by omega
                  have HJ : Hid (_) := hj
                  clear hj
                  go_wp2
                  go_quiet (fail)
                  go_wp2
                  · have hq : (S j == S k) = true := by assumption
                    go_roundw
                    case rel => exact ⟨a + 1, by omega, by go_num, by rw [take_snoc hal, HJ.out, dupB_snoc, hq, Bool.or_true], HX.out.drewN _⟩
                    case measure => simp [intOf]; omega
                  · have hq : (S j == S k) = false := by assumption
                    go_roundw
                    case rel => exact ⟨a + 1, by omega, by go_num, by rw [take_snoc hal, HJ.out, dupB_snoc, hq, Bool.or_false], HX.out.drewN _⟩
                    case measure => simp [intOf]; omega
                · go_wp2
                  go_meet
                  exact ⟨by rw [List.take_of_length_le (by omega)], HX⟩
          case rest =>
            obtain ⟨rfl, HW2⟩ := hcut
            clear HW
            cases hd : dupB S (S k) A with
            | true =>
              as_aux_lemma =>
                go_wp2
                go_roundw
                case rel => exact ⟨k + 1, A, ts, la, lm, by omega, by omega, hla1, hla2, rfl, rfl, rfl, rfl, rfl, rfl, by go_num, ⟨HI.out.1, fun a ha => by have := HI.out.2 a ha; omega⟩, HW2⟩
                case measure => simp [intOf]; omega
            | false =>
              have v0 := HW2.out.k0.cell (show k < l0 by omega)
              have v1 := HW2.out.k1.cell (show k < l1 by omega)
              have v2 := HW2.out.k2.cell (show k < l2 by omega)
              have v3 := HW2.out.k3.cell (show k < l3 by omega)
              have f0 := HW2.out.k0.lt
              have f1 := HW2.out.k1.lt
              have f2 := HW2.out.k2.lt
              have f3 := HW2.out.k3.lt
              have z0 : (k : Int) < (l0 : Int) := by omega
              have z1 : (k : Int) < (l1 : Int) := by omega
              have z2 : (k : Int) < (l2 : Int) := by omega
              have z3 : (k : Int) < (l3 : Int) := by omega
              have sb := sumZ_bd (fun j hj => (HS.out j hj).2) A (fun a ha => by have := HI.out.2 a ha; omega)
              obtain ⟨sb1, sb2⟩ := sb
              obtain ⟨⟨sk1, sk2⟩, zk1, zk2⟩ := HS.out k hlt
              go_upto_region 37 with fail
              have HD : Hid (_) := hd
              clear hd
              go_cut [24] (fun g wd => g = .bool (wantB S T M Z A k fr lim) ∧ Hid (WFit w' wd g0 g1 g2 g3 ga l0 l1 l2 l3 n S T M Z A))
              case first =>
                as_aux_lemma =>
                  go_region_held3 (fun w' => w'.cell? ⟨g0, k, none⟩ = some (.int .i64 (S k)) ∧ w'.cell? ⟨g1, k, none⟩ = some (.int .u32 (T k)) ∧ w'.cell? ⟨g2, k, none⟩ = some (.bool (M k)) ∧ w'.cell? ⟨g3, k, none⟩ = some (.int .i64 (Z k))) (go_keep)
                    (first | (go_at_call 13; refine (zzfits_at _ _ _ _ _ _ _ _ _ _ _ _ (p0 := ⟨g0, k, none⟩) (p1 := ⟨g1, k, none⟩) (p2 := ⟨g2, k, none⟩) (p3 := ⟨g3, k, none⟩) (by simp [*]; rfl) (by simp [*]; rfl) (by simp [*]; rfl) (by simp [*]; rfl) (by omega) (by omega) (by omega) (by omega) (by omega) (by omega) (by omega) (by omega) (by omega) (by omega)).mono ?_; rintro e w9 ⟨rfl, hb9, y0, y1, y2, y3⟩))
                  go_wp2_with fail
                  go_meet
                  exact ⟨by rw [← fits_law HI.out.1 HD.out], (HW2.out.drewN 1).later hb9⟩
              case rest =>
                clear v0 v1 v2 v3 f0 f1 f2 f3 HW2
                obtain ⟨rfl, HW3⟩ := hcut
                have v0 := HW3.out.k0.cell (show k < l0 by omega)
                have v3 := HW3.out.k3.cell (show k < l3 by omega)
                go_upto_block 6 with fail
                clear v0 v3
                go_cut [25, 26, 27] (fun t p s wd => t = .int .i64 (Z k + sumZ Z A) ∧ p = .int .i64 (topF S (S k) A) ∧ s = .bool (sameB T (T k) A) ∧ Hid (WFit w' wd g0 g1 g2 g3 ga l0 l1 l2 l3 n S T M Z A))
                case first =>
                  as_aux_lemma =>
                    go_wp2
                    go_loopw [25, 26, 27, 28] (fun t p s x wd => ∃ a : Nat, a ≤ A.length ∧ x = .int .i64 a ∧ t = .int .i64 (Z k + sumZ Z (A.take a)) ∧ p = .int .i64 (topF S (S k) (A.take a)) ∧ s = .bool (sameB T (T k) (A.take a)) ∧ Hid (WFit w' wd g0 g1 g2 g3 ga l0 l1 l2 l3 n S T M Z A)) (fun _ _ _ x _ => A.length - (intOf x).toNat)
                    case atStart => exact ⟨0, Nat.zero_le _, rfl, by simp [sumZ], by simp [topF], by simp [sameB], HW3⟩
                    case round =>
                      obtain ⟨a, ha, rfl, rfl, rfl, rfl, HX⟩ := hrel
                      by_cases hal : a < A.length
                      · obtain ⟨j, hj, hjk, q1⟩ := HX.out.at_acc HI.out.2 hal
                        have q2 := HX.out.k0.cell (show j < l0 by omega)
                        have q3 := HX.out.k3.cell (show j < l3 by omega)
                        have q4 := HX.out.k1.cell (show j < l1 by omega)
                        have q5 := HX.out.k1.cell (show k < l1 by omega)
                        have y1 : (a : Int) < (A.length : Int) := by omega
                        have y2 : (j : Int) < (l0 : Int) := by omega
                        have y3 : (j : Int) < (l1 : Int) := by omega
                        have y4 : (j : Int) < (l3 : Int) := by omega
                        have tb := sumZ_bd (fun j hj => (HS.out j hj).2) (A.take a) (fun x hx => by have := HI.out.2 x (List.mem_of_mem_take hx); omega)
                        obtain ⟨tb1, tb2⟩ := tb
                        have tb3 : (A.take a).length ≤ 4096 := by rw [List.length_take]; omega
                        have HT : Hid (A.take (a + 1) = A.take a ++ [j]) := by show A.take (a + 1) = A.take a ++ [j]; rw [take_snoc hal, hj]
                        obtain ⟨zj1, zj2⟩ := (HS.out j (by omega)).2
                        clear hj
                        go_upto_region 48 with fail
                        all_goals go_quiet (fail)
                        all_goals go_wp2
                        · have u1 : topF S (S k) (A.take a) < S j := by assumption
                          have u2 : (T j != T k) = true := by assumption
                          go_roundw
                          case rel => exact ⟨a + 1, by omega, by go_num, by rw [HT.out, sumZ_snoc, Int.add_assoc], by rw [HT.out, topF_snoc, if_pos u1], by rw [HT.out, sameB_snoc, show (T j == T k) = false from by simpa using u2, Bool.and_false], HX.out.drewN _⟩
                          case measure => simp [intOf]; omega
                        · have u1 : topF S (S k) (A.take a) < S j := by assumption
                          have u2 : (T j != T k) = false := by assumption
                          go_roundw
                          case rel => exact ⟨a + 1, by omega, by go_num, by rw [HT.out, sumZ_snoc, Int.add_assoc], by rw [HT.out, topF_snoc, if_pos u1], by rw [HT.out, sameB_snoc, show (T j == T k) = true from by simpa using u2, Bool.and_true], HX.out.drewN _⟩
                          case measure => simp [intOf]; omega
                        · have u1 : S j ≤ topF S (S k) (A.take a) := by assumption
                          have u2 : (T j != T k) = true := by assumption
                          go_roundw
                          case rel => exact ⟨a + 1, by omega, by go_num, by rw [HT.out, sumZ_snoc, Int.add_assoc], by rw [HT.out, topF_snoc, if_neg (by omega)], by rw [HT.out, sameB_snoc, show (T j == T k) = false from by simpa using u2, Bool.and_false], HX.out.drewN _⟩
                          case measure => simp [intOf]; omega
                        · have u1 : S j ≤ topF S (S k) (A.take a) := by assumption
                          have u2 : (T j != T k) = false := by assumption
                          go_roundw
                          case rel => exact ⟨a + 1, by omega, by go_num, by rw [HT.out, sumZ_snoc, Int.add_assoc], by rw [HT.out, topF_snoc, if_neg (by omega)], by rw [HT.out, sameB_snoc, show (T j == T k) = true from by simpa using u2, Bool.and_true], HX.out.drewN _⟩
                          case measure => simp [intOf]; omega
                      · go_wp2
                        go_meet
                        have e : A.take a = A := List.take_of_length_le (by omega)
                        exact ⟨by rw [e], by rw [e], by rw [e], HX⟩
                case rest =>
                  obtain ⟨rfl, rfl, rfl, HW4⟩ := hcut
                  clear HW3
                  have v0 := HW4.out.k0.cell (show k < l0 by omega)
                  have v2 := HW4.out.k2.cell (show k < l2 by omega)
                  go_upto_region 50 with fail
                  go_cut [30] (fun m wd => m = .bool (!M k || S k == topF S (S k) A) ∧ Hid (WFit w' wd g0 g1 g2 g3 ga l0 l1 l2 l3 n S T M Z A))
                  case first =>
                    as_aux_lemma =>
                      cases hm : M k with
                      | true =>
                        go_wp2
                        go_meet
                        exact ⟨by rw [hm]; simp, HW4⟩
                      | false =>
                        go_wp2
                        go_meet
                        exact ⟨by rw [hm]; simp, HW4⟩
                  case rest =>
                    clear v0 v2 HW4
                    obtain ⟨rfl, HW5⟩ := hcut
                    generalize hm0 : (!M k || S k == topF S (S k) A) = m0
                    have HM0 : Hid (_) := hm0
                    clear hm0
                    go_upto_block 8 with fail
                    go_cut [30] (fun m wd => m = .bool (m0 && markB S M (topF S (S k) A) A) ∧ Hid (WFit w' wd g0 g1 g2 g3 ga l0 l1 l2 l3 n S T M Z A))
                    case first =>
                      as_aux_lemma =>
                        go_wp2
                        go_loopw [30, 31] (fun m x wd => ∃ a : Nat, a ≤ A.length ∧ x = .int .i64 a ∧ m = .bool (m0 && markB S M (topF S (S k) A) (A.take a)) ∧ Hid (WFit w' wd g0 g1 g2 g3 ga l0 l1 l2 l3 n S T M Z A)) (fun _ x _ => A.length - (intOf x).toNat)
                        case atStart => exact ⟨0, Nat.zero_le _, rfl, by simp [markB], HW5⟩
                        case round =>
                          obtain ⟨a, ha, rfl, rfl, HX⟩ := hrel
                          by_cases hal : a < A.length
                          · obtain ⟨j, hj, hjk, q1⟩ := HX.out.at_acc HI.out.2 hal
                            have q2 := HX.out.k0.cell (show j < l0 by omega)
                            have q3 := HX.out.k2.cell (show j < l2 by omega)
                            have HT : Hid (A.take (a + 1) = A.take a ++ [j]) := by show A.take (a + 1) = A.take a ++ [j]; rw [take_snoc hal, hj]
                            clear hj
                            cases hm : M j with
                            | true =>
                              go_wp2
                              · have u2 : (S j != topF S (S k) A) = true := by assumption
                                go_roundw
                                case rel => exact ⟨a + 1, by omega, by go_num, by rw [HT.out, markB_snoc, hm, u2]; simp, HX⟩
                                case measure => simp [intOf]; omega
                              · have u2 : (S j != topF S (S k) A) = false := by assumption
                                go_roundw
                                case rel => exact ⟨a + 1, by omega, by go_num, by rw [HT.out, markB_snoc, hm, u2]; simp, HX⟩
                                case measure => simp [intOf]; omega
                            | false =>
                              go_wp2
                              go_roundw
                              case rel => exact ⟨a + 1, by omega, by go_num, by rw [HT.out, markB_snoc, hm]; simp, HX⟩
                              case measure => simp [intOf]; omega
                          · go_wp2
                            go_meet
                            have e : A.take a = A := List.take_of_length_le (by omega)
                            exact ⟨by rw [e], HX⟩
                    case rest =>
                      clear HW5
                      obtain ⟨rfl, HW6⟩ := hcut
                      generalize hm1 : (m0 && markB S M (topF S (S k) A) A) = m1
                      have HM1 : Hid (_) := hm1
                      clear hm1
                      generalize htop : topF S (S k) A = top at *
                      have HTop : Hid (_) := htop
                      obtain ⟨tp1, tp2⟩ : -2305843009213693952 ≤ top ∧ top ≤ 2305843009213693952 := by
                        obtain ⟨x1, x2, x3⟩ := topF_spec S A (S k)
                        rw [htop] at x1 x2 x3
                        rcases x3 with e | ⟨j, hj, e⟩
                        · omega
                        · have h1 := HI.out.2 j hj
                          have h2 := (HS.out j (by omega)).1
                          omega
                      clear htop
                      go_upto_region 57 with fail
                      go_cut [33] (fun m wd => m = .bool (A.length == 0 || decide (top - fr < 16384)) ∧ Hid (WFit w' wd g0 g1 g2 g3 ga l0 l1 l2 l3 n S T M Z A))
                      case first =>
                        as_aux_lemma =>
                          by_cases hA0 : A.length = 0
                          · have hq : ((A.length : Int) == 0) = true := beq_iff_eq.2 (by omega)
                            have HA0 : Hid (A.length = 0) := hA0
                            clear hA0
                            go_wp2
                            go_meet
                            exact ⟨by rw [HA0.out]; rfl, HW6⟩
                          · have hq : ((A.length : Int) == 0) = false := beq_eq_false_iff_ne.2 (by omega)
                            go_wp2
                            go_meet
                            exact ⟨by rw [show (A.length == 0) = false from beq_eq_false_iff_ne.2 hA0]; rfl, HW6⟩
                      case rest =>
                        clear HW6
                        obtain ⟨rfl, HW7⟩ := hcut
                        generalize hwn : (A.length == 0 || decide (top - fr < 16384)) = wn
                        have HWn : Hid (_) := hwn
                        clear hwn
                        generalize hsm : sameB T (T k) A = sm
                        have HSm : Hid (_) := hsm
                        clear hsm
                        go_upto_region 58 with fail
                        go_cut [34] (fun m wd => m = .bool (wantB S T M Z A k fr lim) ∧ Hid (WFit w' wd g0 g1 g2 g3 ga l0 l1 l2 l3 n S T M Z A))
                        case first =>
                          as_aux_lemma =>
                            have hw : wantB S T M Z A k fr lim = (decide (Z k + sumZ Z A ≤ lim) && sm && m1 && wn) := by
                              unfold wantB; rw [HTop.out, HSm.out, HM0.out, HM1.out, HWn.out]
                            have Hw : Hid (_) := hw
                            clear hw
                            by_cases hlm : Z k + sumZ Z A ≤ lim
                            · cases sm <;> cases m1
                              all_goals
                                go_wp2
                                go_meet
                                exact ⟨by rw [Hw.out, decide_eq_true hlm]; simp, HW7⟩
                            · have hld : decide (Z k + sumZ Z A ≤ lim) = false := decide_eq_false hlm
                              go_wp2
                              go_meet
                              exact ⟨by rw [Hw.out, hld]; simp, HW7⟩
                        case rest =>
                          clear HW7
                          obtain ⟨rfl, HW8⟩ := hcut
                          cases hg : wantB S T M Z A k fr lim with
                          | false =>
                            as_aux_lemma =>
                              go_wp2
                              go_roundw
                              case rel => exact ⟨k + 1, A, ts, la, lm, by omega, by omega, hla1, hla2, rfl, rfl, rfl, rfl, rfl, rfl, by go_num, ⟨HI.out.1, fun a ha => by have := HI.out.2 a ha; omega⟩, HW8⟩
                              case measure => simp [intOf]; omega
                          | true =>
                            have HS2 := inv_step HI.out.1 HD.out hg
                            have v0 := HW8.out.k0.cell (show k < l0 by omega)
                            have v1 := HW8.out.k1.cell (show k < l1 by omega)
                            have v2 := HW8.out.k2.cell (show k < l2 by omega)
                            have v3 := HW8.out.k3.cell (show k < l3 by omega)
                            have hAn : A.length + 1 ≤ n := by omega
                            have HSn := HD
                            by_cases hA0 : A.length = 0
                            · have hq : ((A.length : Int) == 0) = true := beq_iff_eq.2 (by omega)
                              have HS3 : Hid (GInv S T M (A ++ [k]) (T k) (S k) (M k)) := by rw [if_pos (Or.inl hA0), if_pos (Or.inl hA0)] at HS2; exact HS2
                              clear HS2 hA0
                              as_aux_lemma =>
                                go_wp2_with (at_builtin; refine wpList_append_fits _ rfl (.tmp 311) (.tmp 313) 25 rfl w'.heap.size 3 i3 1 Try.underlying25 hi3 hz31 ga A.length n _ rfl (HW8.out.acc.alloc _) ⟨wc.heap.size, 0, none⟩ 1 1 [.int .i64 k] rfl rfl (cell_one_new _ _ _) (by intro u hu; simp at hu; subst hu; rfl) (by omega) ?_)
                                intro w9 hown9 hgrow9
                                go_wp2
                                go_roundw
                                case rel => exact ⟨k + 1, A ++ [k], T k, S k, M k, by omega, by rw [List.length_append, List.length_singleton]; omega, by omega, by omega, by rw [List.length_append, List.length_singleton], by rw [List.length_append, List.length_singleton]; go_num, by rw [sumZ_snoc], rfl, rfl, rfl, by go_num, ⟨HS3.out, mem_snoc HI.out.2⟩, HW8.out.push e0 e1 e2 e3 (by omega) hgrow9 hown9⟩
                                case measure => simp [intOf]; omega
                            · have hq : ((A.length : Int) == 0) = false := beq_eq_false_iff_ne.2 (by omega)
                              by_cases hc : la < S k
                              · have HS3 : Hid (GInv S T M (A ++ [k]) (T k) (S k) (M k)) := by rw [if_pos (Or.inr hc), if_pos (Or.inr hc)] at HS2; exact HS2
                                clear HS2
                                as_aux_lemma =>
                                  go_wp2_with (at_builtin; refine wpList_append_fits _ rfl (.tmp 311) (.tmp 313) 25 rfl w'.heap.size 3 i3 1 Try.underlying25 hi3 hz31 ga A.length n _ rfl (HW8.out.acc.alloc _) ⟨wc.heap.size, 0, none⟩ 1 1 [.int .i64 k] rfl rfl (cell_one_new _ _ _) (by intro u hu; simp at hu; subst hu; rfl) (by omega) ?_)
                                  intro w9 hown9 hgrow9
                                  go_wp2
                                  go_roundw
                                  case rel => exact ⟨k + 1, A ++ [k], T k, S k, M k, by omega, by rw [List.length_append, List.length_singleton]; omega, by omega, by omega, by rw [List.length_append, List.length_singleton], by rw [List.length_append, List.length_singleton]; go_num, by rw [sumZ_snoc], rfl, rfl, rfl, by go_num, ⟨HS3.out, mem_snoc HI.out.2⟩, HW8.out.push e0 e1 e2 e3 (by omega) hgrow9 hown9⟩
                                  case measure => simp [intOf]; omega
                              · have HS3 : Hid (GInv S T M (A ++ [k]) (T k) la lm) := by rw [if_neg (by omega), if_neg (by omega)] at HS2; exact HS2
                                clear HS2
                                as_aux_lemma =>
                                  go_wp2_with (at_builtin; refine wpList_append_fits _ rfl (.tmp 311) (.tmp 313) 25 rfl w'.heap.size 3 i3 1 Try.underlying25 hi3 hz31 ga A.length n _ rfl (HW8.out.acc.alloc _) ⟨wc.heap.size, 0, none⟩ 1 1 [.int .i64 k] rfl rfl (cell_one_new _ _ _) (by intro u hu; simp at hu; subst hu; rfl) (by omega) ?_)
                                  intro w9 hown9 hgrow9
                                  go_wp2
                                  go_roundw
                                  case rel => exact ⟨k + 1, A ++ [k], T k, la, lm, by omega, by rw [List.length_append, List.length_singleton]; omega, by omega, by omega, by rw [List.length_append, List.length_singleton], by rw [List.length_append, List.length_singleton]; go_num, by rw [sumZ_snoc], rfl, rfl, rfl, by go_num, ⟨HS3.out, mem_snoc HI.out.2⟩, HW8.out.push e0 e1 e2 e3 (by omega) hgrow9 hown9⟩
                                  case measure => simp [intOf]; omega
        · go_wp2
          go_ret
          exact ⟨rfl, HW.out.below⟩
    · have hn0 : n = 0 := by omega
      subst hn0
      as_aux_lemma =>
        go_wp2
        go_loopw [21] (fun ix wr => ix = .int .i64 0 ∧ wr = w5) (fun _ _ => 0)
        case atStart => exact ⟨rfl, rfl⟩
        case round =>
          obtain ⟨rfl, rfl⟩ := hrel
          go_wp2
          go_ret
          exact ⟨rfl, hB.grown hgrow (by omega) (fun k hk => by cases hk)⟩

end Go.Proofs.Qxb6605570a
