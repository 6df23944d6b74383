import Derived.Test.Qxb6605570aPopS
namespace Go.Proofs.Qxb6605570a
open Go.RowKit

/-- The outer loop's relation. -/
def OutRel (w12 : World) (gu n m : Nat) (cf : Nat → Int × Int × Bool × Int × List Int) (J : List Nat) (x : Value) (wr : World) : Prop :=
  ∃ (i : Nat) (used : Nat → Bool), i ≤ m ∧ x = .int .i64 i ∧ Hid (Below w12.heap.size w12 wr ∧ BlkTo wr 4 gu n n (fun j => .bool (used j)) ∧ Left cf m i J used)
/-- The inner loop's relation. -/
def InRel (w12 : World) (gu n m i : Nat) (cf : Nat → Int × Int × Bool × Int × List Int) (J : List Nat) (used : Nat → Bool) (y x : Value) (wr : World) : Prop :=
  ∃ (k : Nat) (b : Bool) (u' : Nat → Bool), 1 ≤ k ∧ k ≤ n ∧ y = .bool b ∧ x = .int .i64 k ∧ Hid (Below w12.heap.size w12 wr ∧ BlkTo wr 4 gu n n (fun j => .bool (u' j)) ∧ (b = false → u' = used ∧ ∀ j, 1 ≤ j → j < k → ¬ (used j = false ∧ cf j = cf (J.getD i 0))) ∧ (b = true → Left cf m (i + 1) J u'))

set_option maxHeartbeats 4500000 in
set_option maxRecDepth 100000 in
theorem poplaw_any (a0 a1 a2 a3 a4 : Option Addr) (l0 l1 l2 l3 l4 c0 c1 c2 c3 c4 : Nat) (S T : Nat → Int) (M : Nat → Bool) (Z : Nat → Int) (A : Nat → Option Addr) (L C : Nat → Nat) (z : Nat → Nat → Int) (w : World)
    (r0 : RowAt w a0 l0 c0 fun i => .int .i64 (S i)) (r1 : RowAt w a1 l1 c1 fun i => .int .u32 (T i)) (r2 : RowAt w a2 l2 c2 fun i => .bool (M i)) (r3 : RowAt w a3 l3 c3 fun i => .int .i64 (Z i))
    (r4 : RowAt w a4 l4 c4 fun i => .slice (A i) (L i) (C i)) (rr : Rows2 w l4 A L C z)
    (h0 : l0 ≤ 4096) (h1 : l1 ≤ 4096) (h2 : l2 ≤ 4096) (h3 : l3 ≤ 4096) (h4 : l4 ≤ 4096) :
    Calls Try.prog 5 #[.slice a0 l0 c0, .slice a1 l1 c1, .slice a2 l2 c2, .slice a3 l3 c3, .slice a4 l4 c4] w fun e w' => e = .returned (.bool true) ∧ Below w.heap.size w w' := by
  obtain ⟨n, hn⟩ : ∃ n : Nat, min (min4 l0 l1 l2 l3) l4 = n := ⟨(min (min4 l0 l1 l2 l3) l4).toNat, by unfold min4; omega⟩
  have hn0 : n ≤ l0 ∧ n ≤ l1 ∧ n ≤ l2 ∧ n ≤ l3 ∧ n ≤ l4 := by unfold min4 at hn; omega
  have HN : Hid (_) := hn
  clear hn
  obtain ⟨n0, n1, n2, n3, n4⟩ := hn0
  have hL : Hid (∀ i, i < l4 → L i ≤ 2 ^ 63 - 1) := fun i hi => (rr i hi).form
  go_enter Try.func5, Try.ntmps5
  go_wp2_with fail
  refine (bytes25_any _ _ _ _ _ _ _ _ _ _ _ _ _ _ _ A L C w (by omega) (by omega) (by omega) (by omega) (by omega) r4 hL.out).mono ?_
  rintro e w' ⟨⟨b, rfl, hb⟩, ew⟩
  have ew' := ew.symm
  clear ew
  subst ew'
  cases b with
  | false =>
    go_wp2
    go_ret
    exact ⟨rfl, Below.refl _ _⟩
  | true =>
    have HB : Hid (_) := hb rfl
    clear hb
    go_wp2_with fail
    refine (heapBytes_any _ _ _ _ _ _ _ _ _ _ _ _ _ _ _ A L C _ h0 h1 h2 h3 h4 r4 hL.out).mono ?_
    rintro e w2 ⟨t, rfl, ht0, ht1, ew⟩
    have ew' := ew.symm
    clear ew
    subst ew'
    by_cases htb : 1048576 < t
    · go_wp2
      go_ret
      exact ⟨rfl, Below.refl _ _⟩
    by_cases hn0 : n = 0
    · have hq : ((n : Int) == 0) = true := beq_iff_eq.2 (by omega)
      clear hn0
      go_wp2_with (go_at_call 16; refine (min5_any _ _ _ _ _ _).mono ?_; rintro e w3 ⟨rfl, ew⟩; have ew' := ew.symm; clear ew; subst ew'; rw [HN.out])
      go_ret
      exact ⟨rfl, Below.refl _ _⟩
    have hq : ((n : Int) == 0) = false := beq_eq_false_iff_ne.2 (by omega)
    go_wp2_with (go_at_call 16; refine (min5_any _ _ _ _ _ _).mono ?_; rintro e w3 ⟨rfl, ew⟩; have ew' := ew.symm; clear ew; subst ew'; rw [HN.out])
    refine (isHeap_any _ _ _ n S _ r0 n0 h0).mono ?_
    rintro e w4 ⟨rfl, hb4⟩
    cases hh : heapB S n with
    | false =>
      go_wp2
      go_ret
      exact ⟨rfl, hb4⟩
    | true =>
      go_wp2_with fail
      have HH : Hid (_) := hh
      clear hh
      refine (clone9_any a0 l0 c0 S _ (by omega) (r0.below hb4)).mono ?_
      rintro e w5 ⟨v0, rfl, hb5, o0⟩
      have H5 := hb4.trans (hb5.mono hb4.size)
      go_wp2_with fail
      refine (clone10_any a1 l1 c1 T _ (by omega) (r1.below H5)).mono ?_
      rintro e w6 ⟨v1, rfl, hb6, o1⟩
      have H6 := H5.trans (hb6.mono H5.size)
      go_wp2_with fail
      refine (clone11_any a2 l2 c2 M _ (by omega) (r2.below H6)).mono ?_
      rintro e w7 ⟨v2, rfl, hb7, o2⟩
      have H7 := H6.trans (hb7.mono H6.size)
      go_wp2_with fail
      refine (clone12_any a3 l3 c3 Z _ (by omega) (r3.below H7)).mono ?_
      rintro e w8 ⟨v3, rfl, hb8, o3⟩
      have H8 := H7.trans (hb8.mono H7.size)
      go_wp2_with fail
      refine (cloneAll_any a4 l4 c4 A L C z _ h4 (r4.below H8) (rr.below H8) HB.out).mono ?_
      rintro e w9 ⟨a4', c4', rfl, hb9, o4⟩
      have H9 := H8.trans (hb9.mono H8.size)
      obtain ⟨g4, A', C', ea, ec, b4, pays⟩ := o4 (by omega)
      subst ea
      have ec' := ec.symm
      clear ec
      subst ec'
      obtain ⟨g0, rfl, b0, k0⟩ := ((((o0.below hb6 (Nat.le_refl _)).below hb7 (Nat.le_refl _)).below hb8 (Nat.le_refl _)).below hb9 (Nat.le_refl _)).pos (by omega)
      obtain ⟨g1, rfl, b1, k1⟩ := (((o1.below hb7 (Nat.le_refl _)).below hb8 (Nat.le_refl _)).below hb9 (Nat.le_refl _)).pos (by omega)
      obtain ⟨g2, rfl, b2, k2⟩ := ((o2.below hb8 (Nat.le_refl _)).below hb9 (Nat.le_refl _)).pos (by omega)
      obtain ⟨g3, rfl, b3, k3⟩ := (o3.below hb9 (Nat.le_refl _)).pos (by omega)
      clear o0 o1 o2 o3 o4 hb5 hb6 hb7 hb8 hb9 r0 r1 r2 r3 r4 rr
      go_wp2_with fail
      refine (build_any g0 g1 g2 g3 g4 l0 l1 l2 l3 l4 n S T M Z A' L C' w9 (by omega) n0 n1 n2 n3 n4 k0 k1 k2 k3 pays.1).mono ?_
      rintro e w10 ⟨rfl, hb10, kh⟩
      obtain ⟨m, hm⟩ : ∃ m, m + 1 = n := ⟨n - 1, by omega⟩
      have hs9 := hb10.size
      go_wp2_with fail
      have zp := zzpop_any w10.heap.size w9.heap.size n m n (fun i => ⟨S i, T i, M i, Z i, A' i, L i, C' i⟩) (w10.alloc (.cells #[.slice (some ⟨w9.heap.size, 0, none⟩) n n] 43)) (by omega) (by omega) (by have := kh.lt; omega) (by rw [hm]; exact Lies.new w10 _ 43) (kh.alloc _) (by omega)
      refine zp.mono ?_
      clear zp
      rintro e w11 ⟨rfl, hA⟩
      go_upto_region 18 with fail
      generalize hw12 : w11.alloc (.cells _ 46) = w12
      have LD : Hid (Laid w12 w10.heap.size w9.heap.size w11.heap.size n g0 g1 g2 g3 g4 l0 l1 l2 l3 l4 (.slice (some ⟨w9.heap.size, 0, none⟩) m n) ⟨S 0, T 0, M 0, Z 0, A' 0, L 0, C' 0⟩ (popF (fun i => ⟨S i, T i, M i, Z i, A' i, L i, C' i⟩) m) S T M Z A' L C' z) := by
        show Laid _ _ _ _ _ _ _ _ _ _ _ _ _ _ _ _ _ _ _ _ _ _ _ _ _ _
        rw [← hw12]
        exact laid_pop ⟨S 0, T 0, M 0, Z 0, A' 0, L 0, C' 0⟩ k0 k1 k2 k3 pays hb10 hA
      have H12 : Below w.heap.size w w12 := by
        rw [← hw12]
        have q := H9.size
        have B1 : Below w9.heap.size w9 (w10.alloc (.cells #[.slice (some ⟨w9.heap.size, 0, none⟩) n n] 43)) := hb10.alloc hs9 _
        have B2 : Below w9.heap.size w9 w11 := B1.trans (hA.below hs9 (Nat.le_refl _) (by simp; omega))
        have B3 : Below w.heap.size w w11 := H9.trans (B2.mono q)
        exact B3.alloc B3.size _
      clear hA kh hw12 k0 k1 k2 k3 pays hb10 H9 hs9 hb4 H5 H6 H7 H8
      generalize hHB : w10.heap.size = HB at LD ⊢
      generalize hGB : w9.heap.size = GB at LD ⊢
      generalize hRB : w11.heap.size = RB at LD ⊢
      clear hHB hGB hRB
      have hb12 : Below w12.heap.size w12 w12 := Below.refl _ _
      have ROW : Hid (∀ W : World, Below w12.heap.size w12 W → RowAt W (A' 0) (L 0) (C' 0) fun c => .int .u8 (z 0 c)) := fun W hW => (LD.out.below hW).rows 0 (by omega)
      have KEEP : Hid (∀ W : World, Below w12.heap.size w12 W → ((W.cell? ⟨RB, 0, none⟩ = some (.int .i64 (S 0)) ∧ W.cell? ⟨RB, 1, none⟩ = some (.int .u32 (T 0)) ∧ W.cell? ⟨RB, 2, none⟩ = some (.bool (M 0)) ∧ W.cell? ⟨RB, 3, none⟩ = some (.int .i64 (Z 0)) ∧ W.cell? ⟨RB, 4, none⟩ = some (.slice (A' 0) (L 0) (C' 0))) ∧
          W.cell? ⟨g0, 0, none⟩ = some (.int .i64 (S 0)) ∧ W.cell? ⟨g1, 0, none⟩ = some (.int .u32 (T 0)) ∧ W.cell? ⟨g2, 0, none⟩ = some (.bool (M 0)) ∧ W.cell? ⟨g3, 0, none⟩ = some (.int .i64 (Z 0)) ∧ W.cell? ⟨g4, 0, none⟩ = some (.slice (A' 0) (L 0) (C' 0)))) :=
        fun W hW => ⟨(LD.out.below hW).rbox.pk, (LD.out.below hW).k0.cell (by omega), (LD.out.below hW).k1.cell (by omega), (LD.out.below hW).k2.cell (by omega), (LD.out.below hW).k3.cell (by omega), (LD.out.below hW).k4.cell (by omega)⟩
      have z0 : (0 : Int) < (l0 : Int) := by omega
      have z1 : (0 : Int) < (l1 : Int) := by omega
      have z2 : (0 : Int) < (l2 : Int) := by omega
      have z3 : (0 : Int) < (l3 : Int) := by omega
      have z4 : (0 : Int) < (l4 : Int) := by omega
      have y0 : 0 < l0 := by omega
      have y1 : 0 < l1 := by omega
      have y2 : 0 < l2 := by omega
      have y3 : 0 < l3 := by omega
      have y4 : 0 < l4 := by omega
      go_region_held3 (fun W => ((W.cell? ⟨RB, 0, none⟩ = some (.int .i64 (S 0)) ∧ W.cell? ⟨RB, 1, none⟩ = some (.int .u32 (T 0)) ∧ W.cell? ⟨RB, 2, none⟩ = some (.bool (M 0)) ∧ W.cell? ⟨RB, 3, none⟩ = some (.int .i64 (Z 0)) ∧ W.cell? ⟨RB, 4, none⟩ = some (.slice (A' 0) (L 0) (C' 0))) ∧
          W.cell? ⟨g0, 0, none⟩ = some (.int .i64 (S 0)) ∧ W.cell? ⟨g1, 0, none⟩ = some (.int .u32 (T 0)) ∧ W.cell? ⟨g2, 0, none⟩ = some (.bool (M 0)) ∧ W.cell? ⟨g3, 0, none⟩ = some (.int .i64 (Z 0)) ∧ W.cell? ⟨g4, 0, none⟩ = some (.slice (A' 0) (L 0) (C' 0))))
        ((refine KEEP.out _ ?_; first | with_reducible exact hb13 | with_reducible exact hb12.drew))
        ((go_at_call 23; refine (packetIs_self _ _ _ _ _ _ _ (z 0) _ _ _ (ROW.out _ hb12.drew) (ROW.out _ hb12.drew)).mono ?_; rintro e w13 ⟨rfl, hb⟩; have hb13 : Below w12.heap.size w12 w13 := hb12.drew.trans (hb.mono hb12.size)))
      clear KEEP
      have KH : Hid (∀ W : World, Below w12.heap.size w12 W → W.cell? ⟨HB, 0, none⟩ = some (.slice (some ⟨GB, 0, none⟩) m n)) := fun W hW => (LD.out.below hW).hcell.cell 0
      have x1 := KH.out _ hb13
      have q1 : IntKind.i64.wrap ((n : Int) - 1) = (m : Int) := by rw [wrap_id (by omega) (by omega)]; omega
      have q2 : (n : Int) - 1 = (m : Int) := by omega
      have q3 : ((m : Int) != (n : Int) - 1) = false := by rw [q2]; simp
      go_upto_region 22 with fail
      clear x1 q3
      have REL : popF (fun i => (⟨S i, T i, M i, Z i, A' i, L i, C' i⟩ : Pk)) m m = ⟨0, 0, false, 0, A' 0, L 0, C' 0⟩ := pop_relic _ m
      have KEEP : Hid (∀ W : World, Below w12.heap.size w12 W → ((W.cell? ⟨GB, m * 5, none⟩ = some (.int .i64 0) ∧ W.cell? ⟨GB, m * 5 + 1, none⟩ = some (.int .u32 0) ∧ W.cell? ⟨GB, m * 5 + 2, none⟩ = some (.bool false) ∧ W.cell? ⟨GB, m * 5 + 3, none⟩ = some (.int .i64 0) ∧ W.cell? ⟨GB, m * 5 + 4, none⟩ = some (.slice (A' 0) (L 0) (C' 0))) ∧
          W.cell? ⟨g4, 0, none⟩ = some (.slice (A' 0) (L 0) (C' 0)))) := by
        intro W hW
        have q := (LD.out.below hW).heap.pk (show m < n by omega)
        rw [REL] at q
        exact ⟨q, (LD.out.below hW).k4.cell (by omega)⟩
      clear REL
      have zm : (m : Int) < (n : Int) := by omega
      have q4 : IntKind.i64.wrap (m : Int) = (m : Int) := wrap_id (by omega) (by omega)
      have zm' : m < n := by omega
      go_region_held3 (fun W => ((W.cell? ⟨GB, m * 5, none⟩ = some (.int .i64 0) ∧ W.cell? ⟨GB, m * 5 + 1, none⟩ = some (.int .u32 0) ∧ W.cell? ⟨GB, m * 5 + 2, none⟩ = some (.bool false) ∧ W.cell? ⟨GB, m * 5 + 3, none⟩ = some (.int .i64 0) ∧ W.cell? ⟨GB, m * 5 + 4, none⟩ = some (.slice (A' 0) (L 0) (C' 0))) ∧
          W.cell? ⟨g4, 0, none⟩ = some (.slice (A' 0) (L 0) (C' 0))))
        ((refine KEEP.out _ ?_; first | with_reducible exact hb14 | with_reducible exact hb13.drew))
        ((go_at_call 23; refine (packetIs_self _ _ _ _ _ _ _ (z 0) _ _ _ (ROW.out _ hb13.drew) (ROW.out _ hb13.drew)).mono ?_; rintro e w14 ⟨rfl, hb⟩; have hb14 : Below w12.heap.size w12 w14 := hb13.drew.trans (hb.mono hb13.size)))
      clear KEEP
      have x1 := KH.out _ hb14
      go_wp2_with fail
      clear x1
      refine (ordered_any GB n m (popF (fun i => ⟨S i, T i, M i, Z i, A' i, L i, C' i⟩) m) w14 (by omega) ((LD.out.below hb14).heap.less (by omega)) n).mono ?_
      rintro e w15 ⟨rfl, hb⟩
      have hb15 : Below w12.heap.size w12 w15 := hb14.trans (hb.mono hb14.size)
      clear hb
      have hord : ordB (popF (fun i => (⟨S i, T i, M i, Z i, A' i, L i, C' i⟩ : Pk)) m) m = true := by
        refine decide_eq_true fun i hi h1 => ?_
        refine pop_ord (f := fun i => ⟨S i, T i, M i, Z i, A' i, L i, C' i⟩) (n := m) ?_ i hi h1
        intro i hi h1
        exact (of_decide_eq_true HH.out) i (by omega) h1
      rw [hord]
      go_upto_region 26 with fail
      obtain ⟨ity, hi4, hz0, hz1, hz2⟩ := info_parts Try.info4
      go_wp2_with (at_make; refine wpList_make_full _ rfl _ _ 24 rfl w12.heap.size 4 ity _ 1 Try.underlying24 hi4 hz0 hz1 _ _ _ _ n rfl rfl rfl rfl (by rw [hz2]; omega) (by unfold maxLen; omega) hb15.size ?_)
      intro w16 hown hgrow
      have ku := BlkTo.of_made hown
      have hb16 : Below w12.heap.size w12 w16 := hb15.grown hgrow hb15.size (fun k hk => by cases hk)
      have hgu := hb15.size
      clear hown hgrow ity hi4 hz0 hz1 hz2
      generalize w15.heap.size = gu at ku hgu ⊢
      clear hb12 hb13 hb14 hb15 ROW
      obtain ⟨J, jp, jl, jf⟩ := pop_match (fun i => (⟨S i, T i, M i, Z i, A' i, L i, C' i⟩ : Pk)) m
      have hL0 : Left (ct S T M Z L z) m 0 J (fun _ => false) := left_start _ jp
      clear jp
      have JF : Hid (_) := jf
      clear jf hord zm zm'
      go_wp2
      go_loopw [16] (OutRel w12 gu n m (ct S T M Z L z) J) (fun x _ => m - (intOf x).toNat)
      case atStart => exact ⟨0, _, Nat.zero_le _, rfl, hb16, ku, hL0⟩
      case round =>
        clear ku hL0 hb16
        obtain ⟨i, used, him, rfl, HR⟩ := hrel
        by_cases hlt : i < m
        · go_wp2
          go_loopw [17, 18] (InRel w12 gu n m i (ct S T M Z L z) J used) (fun _ x _ => n - (intOf x).toNat)
          case atStart => exact ⟨1, false, used, by omega, by omega, rfl, rfl, HR.out.1, HR.out.2.1, fun _ => ⟨rfl, fun j h1 h2 => by omega⟩, fun h => by cases h⟩
          case round =>
            obtain ⟨k, b, u', hk1, hkn, rfl, rfl, HI⟩ := hrel
            cases b with
            | true =>
              go_wp2
              all_goals
                go_roundw
                case rel => exact ⟨i + 1, u', by omega, by go_num, HI.out.1, HI.out.2.1, HI.out.2.2.2 rfl⟩
                case measure => simp [intOf]; omega
            | false =>
              obtain ⟨eu, nope⟩ := HI.out.2.2.1 rfl
              subst eu
              have NOPE : Hid (_) := nope
              clear nope
              by_cases hkl : k < n
              · obtain ⟨jfi, jle⟩ := JF.out i hlt
                obtain ⟨ji, hji⟩ : ∃ ji, J.getD i 0 = ji := ⟨_, rfl⟩
                rw [hji] at jfi jle
                have HJI : Hid (_) := hji
                clear hji
                have hbr := HI.out.1
                have LW := LD.out.below hbr
                have hpk := LW.heap.pk (show i < n by omega)
                rw [jfi] at hpk
                have HPK : Hid (_) := hpk
                have JFI : Hid (_) := jfi
                clear hpk jfi
                have z0 : (k : Int) < (l0 : Int) := by omega
                have z1 : (k : Int) < (l1 : Int) := by omega
                have z2 : (k : Int) < (l2 : Int) := by omega
                have z3 : (k : Int) < (l3 : Int) := by omega
                have z4 : (k : Int) < (l4 : Int) := by omega
                have z5 : (k : Int) < (n : Int) := by omega
                have z6 : (i : Int) < (m : Int) := by omega
                have cu := HI.out.2.1.cell hkl
                have fu : wr.frozen? ⟨gu, k, none⟩ = false := HI.out.2.1.frozen
                cases huk : u' k with
                | true =>
                  rw [huk] at cu
                  go_wp2
                  go_quiet (fail)
                  go_wp2
                  go_roundw
                  case rel =>
                    refine ⟨k + 1, false, u', by omega, by omega, rfl, by go_num, below_drewN hbr _, HI.out.2.1, fun _ => ⟨rfl, fun j h1 h2 => ?_⟩, fun h => by cases h⟩
                    by_cases e : j = k
                    · subst e; rintro ⟨x, _⟩; rw [huk] at x; cases x
                    · exact NOPE.out j h1 (by omega)
                  case measure => simp [intOf]; omega
                | false =>
                  rw [huk] at cu
                  have hbs := hbr.size
                  have hwr : Below wr.heap.size wr wr := Below.refl _ _
                  have KEEP : Hid (∀ W : World, Below wr.heap.size wr W → (W.cell? ⟨gu, k, none⟩ = some (.bool false) ∧ W.cell? ⟨HB, 0, none⟩ = some (.slice (some ⟨GB, 0, none⟩) m n) ∧ (W.cell? ⟨GB, i * 5, none⟩ = some (.int .i64 (S ji)) ∧ W.cell? ⟨GB, i * 5 + 1, none⟩ = some (.int .u32 (T ji)) ∧ W.cell? ⟨GB, i * 5 + 2, none⟩ = some (.bool (M ji)) ∧ W.cell? ⟨GB, i * 5 + 3, none⟩ = some (.int .i64 (Z ji)) ∧ W.cell? ⟨GB, i * 5 + 4, none⟩ = some (.slice (A' ji) (L ji) (C' ji))) ∧
                W.cell? ⟨g0, k, none⟩ = some (.int .i64 (S k)) ∧ W.cell? ⟨g1, k, none⟩ = some (.int .u32 (T k)) ∧ W.cell? ⟨g2, k, none⟩ = some (.bool (M k)) ∧ W.cell? ⟨g3, k, none⟩ = some (.int .i64 (Z k)) ∧ W.cell? ⟨g4, k, none⟩ = some (.slice (A' k) (L k) (C' k)))) :=
                    fun W hW => ⟨((HI.out.2.1.below hW HI.out.2.1.lt).cell hkl).trans (by rw [huk]), (LW.below hW).hcell.cell 0, by have q := (LW.below hW).heap.pk (show i < n by omega); rw [JFI.out] at q; exact q,
                      (LW.below hW).k0.cell (by omega), (LW.below hW).k1.cell (by omega), (LW.below hW).k2.cell (by omega), (LW.below hW).k3.cell (by omega), (LW.below hW).k4.cell (by omega)⟩
                  have RK : Hid (∀ W : World, Below wr.heap.size wr W → RowAt W (A' k) (L k) (C' k) fun c => .int .u8 (z k c)) := fun W hW => (LW.below hW).rows k (by omega)
                  have RJ : Hid (∀ W : World, Below wr.heap.size wr W → RowAt W (A' ji) (L ji) (C' ji) fun c => .int .u8 (z ji c)) := fun W hW => (LW.below hW).rows ji (by omega)
                  go_upto_region 34 with fail
                  go_region_held3 (fun W => (W.cell? ⟨gu, k, none⟩ = some (.bool false) ∧ W.cell? ⟨HB, 0, none⟩ = some (.slice (some ⟨GB, 0, none⟩) m n) ∧ (W.cell? ⟨GB, i * 5, none⟩ = some (.int .i64 (S ji)) ∧ W.cell? ⟨GB, i * 5 + 1, none⟩ = some (.int .u32 (T ji)) ∧ W.cell? ⟨GB, i * 5 + 2, none⟩ = some (.bool (M ji)) ∧ W.cell? ⟨GB, i * 5 + 3, none⟩ = some (.int .i64 (Z ji)) ∧ W.cell? ⟨GB, i * 5 + 4, none⟩ = some (.slice (A' ji) (L ji) (C' ji))) ∧
                W.cell? ⟨g0, k, none⟩ = some (.int .i64 (S k)) ∧ W.cell? ⟨g1, k, none⟩ = some (.int .u32 (T k)) ∧ W.cell? ⟨g2, k, none⟩ = some (.bool (M k)) ∧ W.cell? ⟨g3, k, none⟩ = some (.int .i64 (Z k)) ∧ W.cell? ⟨g4, k, none⟩ = some (.slice (A' k) (L k) (C' k))))
                    ((refine KEEP.out _ ?_; first | with_reducible exact hw2 | with_reducible exact hwr.drew))
                    ((go_at_call 23; refine (packetIs_any _ _ _ _ _ _ _ (z ji) _ _ _ _ _ _ _ (z k) _ (RJ.out _ hwr.drew) (RK.out _ hwr.drew)).mono ?_; rintro e w2 ⟨rfl, hb2⟩; have hw2 : Below wr.heap.size wr w2 := hwr.drew.trans (hb2.mono hwr.size)))
                  clear KEEP RK RJ cu fu
                  have HB2 := HI.out.2.1.below hw2 HI.out.2.1.lt
                  have hbw := hbr.trans (hw2.mono hbs)
                  obtain ⟨u0, cu⟩ := HB2.there hkl
                  have fu : w2.frozen? ⟨gu, k, none⟩ = false := HB2.frozen
                  have HIF : Hid (isB (S ji) (T ji) (M ji) (Z ji) (L ji) (z ji) (S k) (T k) (M k) (Z k) (L k) (z k) = true ↔ ct S T M Z L z ji = ct S T M Z L z k) := isB_iff S T M Z L z ji k
                  generalize isB (S ji) (T ji) (M ji) (Z ji) (L ji) (z ji) (S k) (T k) (M k) (Z k) (L k) (z k) = bb at HIF ⊢
                  cases bb with
                  | true =>
                    go_wp2
                    go_roundw
                    case rel =>
                      refine ⟨k + 1, true, fun x => if x = k then true else u' x, by omega, by omega, rfl, by go_num, hbw.setCell hgu _, HB2.put k _ (by simp) (fun i _ hi => by simp [hi]), (fun h => Bool.noConfusion h), fun _ => ?_⟩
                      exact left_step HR.out.2.2 (by rw [jl]; exact hlt) hk1 (by omega) huk (by rw [HJI.out]; exact (HIF.out.1 rfl).symm)
                    case measure => simp [intOf]; omega
                  | false =>
                    go_wp2
                    go_roundw
                    case rel =>
                      refine ⟨k + 1, false, u', by omega, by omega, rfl, by go_num, hbw, HB2, fun _ => ⟨rfl, fun j h1 h2 => ?_⟩, fun h => by cases h⟩
                      by_cases e : j = k
                      · subst e; rintro ⟨_, x⟩; rw [HJI.out] at x; exact absurd (HIF.out.2 x.symm) (by simp)
                      · exact NOPE.out j h1 (by omega)
                    case measure => simp [intOf]; omega
              · exfalso
                obtain ⟨j, j1, j2, j3, j4⟩ := left_find HR.out.2.2 (by rw [jl]; exact hlt)
                exact NOPE.out j j1 (by omega) ⟨j3, j4⟩
        · go_wp2
          go_ret
          exact ⟨rfl, H12.trans (HR.out.1.mono H12.size)⟩

end Go.Proofs.Qxb6605570a
