import Derived.Test.Qxb6605570aPuS
namespace Go.Proofs.Qxb6605570a
open Go.RowKit

/-- The loop that climbs. -/
def UpRel (w14 : World) (GU n : Nat) (x y : Value) (wd : World) : Prop :=
  ∃ (c : Nat) (P : List Nat), c ≤ n ∧ P.length + 1 ≤ 64 ∧ x = .slice (some ⟨GU, 0, none⟩) P.length 64 ∧ y = .int .i64 c ∧ Hid (P ++ anc c = anc n ∧ Below GU w14 wd ∧ BlkTo wd 3 GU 64 P.length (lvc P))

def ChkRel (w0 : World) (m : Nat) (x : Value) (wd : World) : Prop := ∃ v : Nat, v ≤ m ∧ x = .int .i64 v ∧ Hid (Below w0.heap.size w0 wd)
/-- The loop that marks the path. -/
def OnRel (wc : World) (n mm : Nat) (x : Value) (wd : World) : Prop :=
  ∃ t : Nat, t ≤ mm ∧ x = .int .i64 t ∧ Hid (Below wc.heap.size wc wd ∧ BlkTo wd 4 wc.heap.size (n + 1) (n + 1) (fun x => .bool (decide (x ∈ (anc n).take t))))
theorem take_succ_getD {l : List Nat} {t : Nat} (h : t < l.length) : l.take (t + 1) = l.take t ++ [l.getD t 0] := by
  rw [List.take_add_one, List.getElem?_eq_getElem h, List.getD_eq_getElem?_getD, List.getElem?_eq_getElem h]; rfl

set_option maxHeartbeats 16000000 in
set_option maxRecDepth 100000 in
theorem pushlaw_any (a0 a1 a2 a3 a4 ap : Option Addr) (l0 l1 l2 l3 l4 lp c0 c1 c2 c3 c4 cp : Nat) (S T : Nat → Int) (M : Nat → Bool) (Z : Nat → Int) (A : Nat → Option Addr) (L C : Nat → Nat) (z : Nat → Nat → Int) (pS pT : Int) (pM : Bool) (pZ : Int) (zp : Nat → Int) (w : World)
    (r0 : RowAt w a0 l0 c0 fun i => .int .i64 (S i)) (r1 : RowAt w a1 l1 c1 fun i => .int .u32 (T i)) (r2 : RowAt w a2 l2 c2 fun i => .bool (M i)) (r3 : RowAt w a3 l3 c3 fun i => .int .i64 (Z i))
    (r4 : RowAt w a4 l4 c4 fun i => .slice (A i) (L i) (C i)) (rr : Rows2 w l4 A L C z) (rp : RowAt w ap lp cp fun i => .int .u8 (zp i))
    (h0 : l0 ≤ 4096) (h1 : l1 ≤ 4096) (h2 : l2 ≤ 4096) (h3 : l3 ≤ 4096) (h4 : l4 ≤ 4096) (hp : lp ≤ 1048576) :
    Calls Try.prog 4 #[.slice a0 l0 c0, .slice a1 l1 c1, .slice a2 l2 c2, .slice a3 l3 c3, .slice a4 l4 c4, .int .i64 pS, .int .u32 pT, .bool pM, .int .i64 pZ, .slice ap lp cp] w fun e w' => e = .returned (.bool true) ∧ Below w.heap.size w w' := by
  obtain ⟨n, hn⟩ : ∃ n : Nat, min (min4 l0 l1 l2 l3) l4 = n := ⟨(min (min4 l0 l1 l2 l3) l4).toNat, by unfold min4; omega⟩
  have hn0 : n ≤ l0 ∧ n ≤ l1 ∧ n ≤ l2 ∧ n ≤ l3 ∧ n ≤ l4 ∧ n ≤ 4096 := by unfold min4 at hn; omega
  have HN : Hid (_) := hn
  clear hn
  obtain ⟨n0, n1, n2, n3, n4, hn4⟩ := hn0
  have hL : Hid (∀ i, i < l4 → L i ≤ 2 ^ 63 - 1) := fun i hi => (rr i hi).form
  go_enter Try.func4, Try.ntmps4
  go_wp2_with fail
  refine (bytes14_any _ _ _ _ _ _ _ _ _ _ _ _ _ _ _ _ _ _ _ _ _ _ A L C w (by omega) (by omega) (by omega) (by omega) (by omega) (by omega) r4 hL.out).mono ?_
  rintro e w' ⟨⟨b, rfl, hb⟩, ew⟩
  have ew' := ew.symm
  clear ew
  subst ew'
  cases b with
  | false =>
    go_wp2
    go_ret
    exact ⟨rfl, Below.refl _ _⟩
  | true =>
    have HB : Hid (_) := hb rfl
    clear hb
    go_wp2_with fail
    refine (heapBytes_any _ _ _ _ _ _ _ _ _ _ _ _ _ _ _ A L C _ h0 h1 h2 h3 h4 r4 hL.out).mono ?_
    rintro e w2 ⟨t, rfl, ht0, ht1, ew⟩
    have ew' := ew.symm
    clear ew
    subst ew'
    by_cases htb : 1048576 < t + (lp : Int)
    · go_wp2
      go_ret
      exact ⟨rfl, Below.refl _ _⟩
    go_wp2_with (go_at_call 16; refine (min5_any _ _ _ _ _ _).mono ?_; rintro e w3 ⟨rfl, ew⟩; have ew' := ew.symm; clear ew; subst ew'; rw [HN.out])
    refine (isHeap_any _ _ _ n S _ r0 n0 h0).mono ?_
    rintro e w4 ⟨rfl, hb4⟩
    cases hh : heapB S n with
    | false =>
      go_wp2
      go_ret
      exact ⟨rfl, hb4⟩
    | true =>
      have HH : Hid (_) := hh
      clear hh
      go_wp2_with fail
      refine (clone9_any a0 l0 c0 S _ (by omega) (r0.below hb4)).mono ?_
      rintro e w5 ⟨v0, rfl, hb5, o0⟩
      have H5 := hb4.trans (hb5.mono hb4.size)
      go_wp2_with fail
      refine (clone10_any a1 l1 c1 T _ (by omega) (r1.below H5)).mono ?_
      rintro e w6 ⟨v1, rfl, hb6, o1⟩
      have H6 := H5.trans (hb6.mono H5.size)
      go_wp2_with fail
      refine (clone11_any a2 l2 c2 M _ (by omega) (r2.below H6)).mono ?_
      rintro e w7 ⟨v2, rfl, hb7, o2⟩
      have H7 := H6.trans (hb7.mono H6.size)
      go_wp2_with fail
      refine (clone12_any a3 l3 c3 Z _ (by omega) (r3.below H7)).mono ?_
      rintro e w8 ⟨v3, rfl, hb8, o3⟩
      have H8 := H7.trans (hb8.mono H7.size)
      go_wp2_with fail
      refine (cloneAll_any a4 l4 c4 A L C z _ h4 (r4.below H8) (rr.below H8) HB.out).mono ?_
      rintro e wa ⟨x4, y4, rfl, hba, o4⟩
      have Ha := H8.trans (hba.mono H8.size)
      go_wp2_with fail
      refine (clone19_pay ap lp cp zp _ hp (rp.below Ha)).mono ?_
      rintro e w9 ⟨xp, yp, rfl, hb9, rowp, _⟩
      have H9 := Ha.trans (hb9.mono Ha.size)
      obtain ⟨x0, y0, rfl, f0⟩ := (((((o0.below hb6 (Nat.le_refl _)).below hb7 (Nat.le_refl _)).below hb8 (Nat.le_refl _)).below hba (Nat.le_refl _)).below hb9 (Nat.le_refl _)).form'
      obtain ⟨x1, y1, rfl, f1⟩ := ((((o1.below hb7 (Nat.le_refl _)).below hb8 (Nat.le_refl _)).below hba (Nat.le_refl _)).below hb9 (Nat.le_refl _)).form'
      obtain ⟨x2, y2, rfl, f2⟩ := (((o2.below hb8 (Nat.le_refl _)).below hba (Nat.le_refl _)).below hb9 (Nat.le_refl _)).form'
      obtain ⟨x3, y3, rfl, f3⟩ := ((o3.below hba (Nat.le_refl _)).below hb9 (Nat.le_refl _)).form'
      obtain ⟨A', C', GCC⟩ : ∃ A' C', Hid (GC w9 x0 x1 x2 x3 x4 y0 y1 y2 y3 y4 l0 l1 l2 l3 l4 n S T M Z A' L C' z) := by
        by_cases hl4 : 0 < l4
        · obtain ⟨g4, A', C', e1, e2, _, pays⟩ := o4 hl4
          refine ⟨A', C', fun hn => ?_⟩
          obtain ⟨g0, e3, e4, k0⟩ := f0 (by omega)
          obtain ⟨g1, e5, e6, k1⟩ := f1 (by omega)
          obtain ⟨g2, e7, e8, k2⟩ := f2 (by omega)
          obtain ⟨g3, e9, e10, k3⟩ := f3 (by omega)
          exact ⟨g0, g1, g2, g3, g4, e3, e5, e7, e9, e1, ⟨e4, e6, e8, e10, e2⟩, k0, k1, k2, k3, pays.1.below hb9 pays.1.lt, fun i hi => (pays.2 i hi).1.below hb9⟩
        · exact ⟨fun _ => none, fun _ => 0, fun hn => by omega⟩
      have RP : Hid (RowAt w9 xp lp yp fun i => .int .u8 (zp i)) := rowp
      clear HB o0 o1 o2 o3 o4 hb4 hb5 hb6 hb7 hb8 hb9 hba r0 r1 r2 r3 r4 rr rp rowp f0 f1 f2 f3 H5 H6 H7 H8 Ha hL
      go_wp2_with fail
      refine (build_gen x0 x1 x2 x3 x4 y0 y1 y2 y3 y4 l0 l1 l2 l3 l4 n S T M Z A' L C' z w9 hn4 n0 n1 n2 n3 n4 GCC.out).mono ?_
      rintro e w10 ⟨rfl, hb10, kh⟩
      have hs10 := hb10.size
      have hkl := kh.lt
      go_wp2_with (go_at_call 22; refine (make_any _ _ _ _ _ _ _ _).mono ?_; rintro e w11 ⟨rfl, hb11⟩)
      have B1 : Below w10.heap.size w10 (w10.alloc (.cells #[.slice (some ⟨w9.heap.size, 0, none⟩) n n] 43)) := (Below.refl _ _).alloc (Nat.le_refl _) _
      have l11 : Lies w11 w10.heap.size #[.slice (some ⟨w9.heap.size, 0, none⟩) n n] 43 := (Lies.new w10 _ 43).of_block (hb11.block _ (by simp))
      have B11 : Below w10.heap.size w10 w11 := B1.trans (hb11.mono (by simp))
      have B9 : Below w9.heap.size w9 w11 := hb10.trans (B11.mono hs10)
      refine (zzpush_full w10.heap.size w9.heap.size n (fun i => ⟨S i, T i, M i, Z i, A' i, L i, C' i⟩) ⟨pS, pT, pM, pZ, xp, lp, yp⟩ zp w11 hn4 (by omega) l11 (kh.below B11 hkl) (RowAt.below RP.out B9) hp).mono ?_
      rintro e w12 ⟨xq, yq, g', cap', rfl, hg', hE⟩
      go_upto_region 18 with fail
      generalize hw13 : w12.alloc (.cells _ 46) = w13
      have PS : Hid (Pst w9 w13 w10.heap.size g' cap' n w12.heap.size ⟨pS, pT, pM, pZ, xq, lp, yq⟩ zp (siftU ⟨pS, pT, pM, pZ, xq, lp, yq⟩ n (upd (fun i => ⟨S i, T i, M i, Z i, A' i, L i, C' i⟩) n ⟨pS, pT, pM, pZ, xq, lp, yq⟩) n)) := by
        show Pst _ _ _ _ _ _ _ _ _ _
        rw [← hw13]
        exact pst_start B9 hs10 (Nat.le_refl _) hE
      clear hE hw13 hg' l11 B1 B11 B9 kh hb11 hs10 hkl hb10
      obtain ⟨D, hD⟩ := push_path (f := fun i => (⟨S i, T i, M i, Z i, A' i, L i, C' i⟩ : Pk)) (n := n) ⟨pS, pT, pM, pZ, xq, lp, yq⟩ (fun j h1 h2 => of_decide_eq_true HH.out j h1 h2)
      have hord : ordB (siftU ⟨pS, pT, pM, pZ, xq, lp, yq⟩ n (upd (fun i => ⟨S i, T i, M i, Z i, A' i, L i, C' i⟩) n ⟨pS, pT, pM, pZ, xq, lp, yq⟩) n) (n + 1) = true :=
        decide_eq_true fun i hi h1 => push_ord (f := fun i => (⟨S i, T i, M i, Z i, A' i, L i, C' i⟩ : Pk)) (fun j h1 h2 => of_decide_eq_true HH.out j h1 h2) i hi h1
      generalize siftU ⟨pS, pT, pM, pZ, xq, lp, yq⟩ n (upd (fun i => ⟨S i, T i, M i, Z i, A' i, L i, C' i⟩) n ⟨pS, pT, pM, pZ, xq, lp, yq⟩) n = F at PS hD hord
      have HD : Hid (_) := hD
      have HORD : Hid (_) := hord
      clear hD hord
      generalize w10.heap.size = HB at PS ⊢
      generalize w12.heap.size = R at PS ⊢
      obtain ⟨b0, b1, b2, b3, b4⟩ := PS.out.box.pk
      have RQ : Hid (RowAt w13 xp lp yp fun i => .int .u8 (zp i)) := RowAt.below RP.out PS.out.bel
      go_upto_region 20 with (go_at_call 23; refine (packetIs_self _ _ _ _ _ _ _ zp _ _ _ PS.out.pay.row RQ.out).mono ?_; rintro e w14 ⟨rfl, hb14⟩)
      have P14 : Hid (_) := PS.out.below hb14
      clear PS RQ hb14 b0 b1 b2 b3 b4
      have c14 : w14.cell? ⟨HB, 0, none⟩ = some (.slice (some ⟨g', 0, none⟩) (n + 1) cap') := P14.out.hcell.cell 0
      obtain ⟨i3, hi3, hz30, hz31, hz32⟩ := info_parts Try.info3
      go_wp2_with (at_make; refine wpList_make_own _ rfl _ _ 25 rfl 0 3 i3 _ 1 Try.underlying25 hi3 hz30 hz31 _ _ _ 64 rfl rfl rfl (by rw [hz32]; omega) (by unfold maxLen; omega) (Nat.zero_le _) ?_)
      intro w15 hown hgrow
      have U0 : Hid (BlkTo w15 3 w14.heap.size 64 0 (lvc [])) := BlkTo.of_own1 hown
      have B15 : Below w14.heap.size w14 w15 := (Below.refl _ _).grown hgrow (Nat.le_refl _) (fun k hk => by cases hk)
      have hG15 : w14.heap.size < w15.heap.size := U0.out.lt
      have hGU9 : w9.heap.size ≤ w14.heap.size := P14.out.bel.size
      have PX : Hid (∀ W, Below w14.heap.size w14 W → Pst w9 W HB g' cap' n R ⟨pS, pT, pM, pZ, xq, lp, yq⟩ zp F) := fun W hW => Pst.below P14.out hW
      clear hown hgrow P14 c14
      generalize w14.heap.size = GU at *
      go_upto_block 0 with fail
      go_cut [24] (fun x wd => x = .slice (some ⟨GU, 0, none⟩) (anc n).length 64 ∧ Hid (Below GU w14 wd ∧ BlkTo wd 3 GU 64 (anc n).length (lvc (anc n))))
      case first =>
        go_wp2
        go_loopw [24, 25] (UpRel w14 GU n) (fun _ y _ => (intOf y).toNat)
        case atStart => exact ⟨n, [], Nat.le_refl _, by simp, rfl, rfl, rfl, B15, U0.out⟩
        case round =>
          clear U0 B15
          obtain ⟨c, P, hcn, hPl, rfl, rfl, HU⟩ := hrel
          obtain ⟨k, hk⟩ : ∃ k, P.length = k := ⟨_, rfl⟩
          have OWN : Hid (_) := own_of_live (HU.out.2.2.alloc (.cells #[.int .i64 (c : Int)] 3)) (by omega) (by unfold maxLen; omega)
          rw [hk] at OWN hPl ⊢
          have hwr : GU < wr.heap.size := HU.out.2.2.lt
          by_cases h0 : c = 0
          · have z1 : ((c : Int) == 0) = true := beq_iff_eq.2 (by omega)
            have H0 : Hid (_) := h0
            clear h0
            go_wp2_with (at_builtin; refine wpList_append_fits _ rfl (.tmp 141) (.tmp 143) 25 rfl 0 3 i3 1 Try.underlying25 hi3 hz31 GU k 64 _ rfl OWN.out ⟨wr.heap.size, 0, none⟩ 1 1 [.int .i64 c] rfl rfl (one_new' _ _ _) (by intro u hu; simp at hu; subst hu; rfl) (by omega) ?_)
            intro w7 hown hgr
            have US : Hid (_) := up_step hk hown hgr GU (by omega) (Nat.le_refl _)
            clear hown hgr
            go_wp2
            go_meet
            have e := HU.out.1
            have h0 : c = 0 := H0.out
            clear H0
            subst h0
            rw [anc_zero] at e
            rw [← e]
            refine ⟨by simp [hk], HU.out.2.1.trans US.out.2, ?_⟩
            have q := US.out.1
            have hlen : (P ++ [0]).length = k + 1 := by simp [hk]
            rw [hlen]
            exact q
          · have z1 : ((c : Int) == 0) = false := beq_eq_false_iff_ne.2 (by omega)
            obtain ⟨u, hu⟩ : ∃ u, (c - 1) / 2 = u := ⟨_, rfl⟩
            have eu : ((c : Int) - 1) / 2 = (u : Int) := by omega
            go_wp2_with (at_builtin; refine wpList_append_fits _ rfl (.tmp 141) (.tmp 143) 25 rfl 0 3 i3 1 Try.underlying25 hi3 hz31 GU k 64 _ rfl OWN.out ⟨wr.heap.size, 0, none⟩ 1 1 [.int .i64 c] rfl rfl (one_new' _ _ _) (by intro u hu; simp at hu; subst hu; rfl) (by omega) ?_)
            intro w7 hown hgr
            have US : Hid (_) := up_step hk hown hgr GU (by omega) (Nat.le_refl _)
            clear hown hgr
            go_wp2
            go_roundw
            case rel =>
              have e := HU.out.1
              rw [anc_pos h0, hu] at e
              have hlen : (P ++ [c]).length = k + 1 := by simp [hk]
              have hl13 := anc_len 13 n (by omega)
              have e2 := congrArg List.length e
              rw [List.length_append, List.length_cons] at e2
              refine ⟨u, P ++ [c], by omega, by omega, by rw [hlen], by rw [eu], ?_, HU.out.2.1.trans US.out.2, ?_⟩
              · rw [List.append_assoc]; exact e
              · rw [hlen]; exact US.out.1
            case measure => simp [intOf]; omega
      case rest =>
        obtain ⟨rfl, HUP⟩ := hcut
        clear U0 B15 hG15 hi3 hz30 hz31 hz32
        obtain ⟨mm, hmm⟩ : ∃ mm, (anc n).length = mm := ⟨_, rfl⟩
        have hmm1 : 0 < mm := by rw [← hmm]; exact anc_pos_len n
        have hmm2 : mm ≤ 13 := by rw [← hmm]; exact anc_len 13 n (by omega)
        rw [hmm] at HUP ⊢
        have HM : Hid (_) := hmm
        clear hmm
        have UC : Hid (∀ W, Below wc.heap.size wc W → ∀ d, d < mm → W.cell? ⟨GU, d, none⟩ = some (.int .i64 (((anc n).getD d 0 : Nat) : Int))) := fun W hW d hd => (HUP.out.2.below hW HUP.out.2.lt).cell hd
        have UL : Hid (∀ d, d < mm → (anc n).getD d 0 ≤ n) := fun d hd => anc_mem_le (anc_getD_mem (by rw [HM.out]; exact hd))
        have UL1 : Hid (∀ d, 1 ≤ d → d < mm → (anc n).getD d 0 < n) := fun d h1 hd => anc_lt h1 (by rw [HM.out]; exact hd)
        have PX2 : Hid (∀ W, Below wc.heap.size wc W → Pst w9 W HB g' cap' n R ⟨pS, pT, pM, pZ, xq, lp, yq⟩ zp F) := by
          intro W hW
          have q := HUP.out.2.lt
          exact PX.out W (HUP.out.1.trans (hW.mono (by omega)))
        clear PX
        obtain ⟨i4, hi4, hz40, hz41, hz42⟩ := info_parts Try.info4
        go_wp2_with (at_make; refine wpList_make_full _ rfl _ _ 24 rfl 0 4 i4 _ 1 Try.underlying24 hi4 hz40 hz41 _ _ _ _ (n + 1) rfl rfl (by omega) (by omega) (by rw [hz42]; omega) (by unfold maxLen; omega) (Nat.zero_le _) ?_)
        intro w17 hown hgrow
        have KO : Hid (BlkTo w17 4 wc.heap.size (n + 1) (n + 1) fun _ => .bool false) := BlkTo.of_made hown
        have B17 : Hid (Below wc.heap.size wc w17) := (Below.refl _ _).grown hgrow (Nat.le_refl _) (fun k hk => by cases hk)
        clear hown hgrow i4 hi4 hz40 hz41 hz42
        go_wp2
        go_loopw [28] (OnRel wc n mm) (fun x _ => mm - (intOf x).toNat)
        case atStart => exact ⟨0, Nat.zero_le _, rfl, B17.out, by have := KO.out; simpa using this⟩
        case round =>
          clear B17 KO
          obtain ⟨t, htm, rfl, HO⟩ := hrel
          by_cases htl : t < mm
          · have q1 := UC.out wr HO.out.1 t htl
            have q2 := UL.out t htl
            obtain ⟨q, hq⟩ : ∃ q, (anc n).getD t 0 = q := ⟨_, rfl⟩
            rw [hq] at q1 q2
            have HQ : Hid (_) := hq
            clear hq
            obtain ⟨u, e2⟩ := HO.out.2.there (i := q) (by omega)
            have e3 : wr.frozen? ⟨wc.heap.size, q, none⟩ = false := HO.out.2.frozen
            have z1 : (t : Int) < (mm : Int) := by omega
            have z2 : (q : Int) < (n : Int) + 1 := by omega
            go_wp2
            go_roundw
            case rel =>
              refine ⟨t + 1, by omega, by go_num, HO.out.1.setCell (Nat.le_refl _) _, HO.out.2.put q _ ?_ ?_⟩
              · have : q ∈ (anc n).take (t + 1) := by
                  rw [← HQ.out, List.getD_eq_getElem?_getD, List.getElem?_eq_getElem (by rw [HM.out]; exact htl)]
                  exact List.mem_take_iff_getElem.2 ⟨t, by rw [HM.out]; omega, rfl⟩
                simp [this]
              · intro x _ hx
                have : (x ∈ (anc n).take (t + 1)) ↔ x ∈ (anc n).take t := by
                  rw [take_succ_getD (show t < (anc n).length by rw [HM.out]; exact htl), List.mem_append, List.mem_singleton, HQ.out]
                  exact ⟨fun h => h.resolve_right hx, Or.inl⟩
                simp [this]
            case measure => simp [intOf]; omega
          · have e : t = mm := by omega
            subst e
            have HO2 : Hid (Below wc.heap.size wc wr ∧ BlkTo wr 4 wc.heap.size (n + 1) (n + 1) fun x => .bool (decide (x ∈ anc n))) := by
              have q := HO.out
              rw [List.take_of_length_le (by rw [HM.out]; exact Nat.le_refl _)] at q
              exact q
            clear HO
            obtain ⟨J, hJ⟩ : ∃ J, J + D + 1 = t := ⟨t - 1 - D, by have := HD.out.lt; rw [HM.out] at this; omega⟩
            go_wp2
            go_loop [29, 30] (fun y x => ∃ s jj : Nat, s + 1 ≤ t ∧ x = .int .i64 s ∧ y = .int .i64 jj ∧ jj = min s J) (fun _ x => t - (intOf x).toNat)
            case atStart => exact ⟨0, 0, by omega, rfl, rfl, by omega⟩
            case round =>
              obtain ⟨s, jj, hs, rfl, rfl, hjj⟩ := hrel
              by_cases hsl : s + 1 < t
              · obtain ⟨d, hd⟩ : ∃ d, d + 1 + s = t := ⟨t - 1 - s, by omega⟩
                have q1 := UC.out wr HO2.out.1 d (by omega)
                have q2 := UL1.out d (by omega) (by omega)
                have q3 := HD.out.iff d (by omega) (by rw [HM.out]; omega)
                obtain ⟨k, hk⟩ : ∃ k, (anc n).getD d 0 = k := ⟨_, rfl⟩
                rw [hk] at q1 q2 q3
                rw [upd_other _ _ (show k ≠ n by omega)] at q3
                have q4 : S k ≤ pS ↔ D < d := q3
                clear hk q3
                obtain ⟨g0, g1, g2, g3, g4, e0, e1, e2, e3, e4, ey, cl⟩ := GCC.out (by omega)
                clear ey
                subst e0
                have q5 : wr.cell? ⟨g0, k, none⟩ = some (.int .i64 (S k)) := (cl.below (PX2.out wr HO2.out.1).bel).k0.cell (by omega)
                have z0 : (t : Int) - 1 - (s : Int) = (d : Int) := by omega
                have z1 : (s : Int) < (t : Int) - 1 := by omega
                have z2 : (d : Int) < (t : Int) := by omega
                have z3 : (k : Int) < (l0 : Int) := by omega
                by_cases hsJ : s < J
                · have z4 : S k ≤ pS := q4.2 (by omega)
                  clear q4 e1 e2 e3 e4 cl
                  go_wp2
                  go_round
                  case rel => exact ⟨s + 1, jj + 1, by omega, by go_num, by go_num, by omega⟩
                  case measure => simp [intOf]; omega
                · have z4 : pS < S k := by
                    rcases Int.lt_or_le pS (S k) with h | h
                    · exact h
                    · have := q4.1 h; omega
                  clear q4 e1 e2 e3 e4 cl
                  go_wp2
                  go_round
                  case rel => exact ⟨s + 1, jj, by omega, by go_num, rfl, by omega⟩
                  case measure => simp [intOf]; omega
              · have ej : jj = J := by omega
                subst ej
                have z1 : (t : Int) - 1 ≤ (s : Int) := by omega
                have hwl := HO2.out.1.size
                have UC3 : Hid (∀ W, Below wr.heap.size wr W → ∀ d, d < t → W.cell? ⟨GU, d, none⟩ = some (.int .i64 (((anc n).getD d 0 : Nat) : Int))) := fun W hW d hd => UC.out W (HO2.out.1.trans (hW.mono hwl)) d hd
                have PX3 : Hid (∀ W, Below wr.heap.size wr W → Pst w9 W HB g' cap' n R ⟨pS, pT, pM, pZ, xq, lp, yq⟩ zp F) := fun W hW => PX2.out W (HO2.out.1.trans (hW.mono hwl))
                have KO3 : Hid (∀ W, Below wr.heap.size wr W → BlkTo W 4 wc.heap.size (n + 1) (n + 1) fun x => .bool (decide (x ∈ anc n))) := fun W hW => HO2.out.2.below hW HO2.out.2.lt
                clear UC PX2 HO2 hwl hjj
                generalize wc.heap.size = GO at *
                go_wp2
                go_loopw [31] (ChkRel wr t) (fun x _ => t - (intOf x).toNat)
                case atStart => exact ⟨0, Nat.zero_le _, rfl, Below.refl _ _⟩
                case round =>
                  clear z1 hsl hs
                  obtain ⟨v, hvt, rfl, HV⟩ := hrel
                  by_cases hvl : v < t
                  · obtain ⟨d, hd⟩ : ∃ d, d + 1 + v = t := ⟨t - 1 - v, by omega⟩
                    have P4 : Hid (_) := PX3.out wr HV.out
                    have q1 := UC3.out wr HV.out d (by omega)
                    have q2 := UL.out d (by omega)
                    have q3 := HD.out.at' d (by rw [HM.out]; omega)
                    obtain ⟨q, hq⟩ : ∃ q, (anc n).getD d 0 = q := ⟨_, rfl⟩
                    rw [hq] at q1 q2 q3
                    have HQ : Hid (_) := hq
                    clear hq
                    have z0 : (t : Int) - 1 - (v : Int) = (d : Int) := by omega
                    have z1 : (v : Int) < (t : Int) := by omega
                    have z2 : (d : Int) < (t : Int) := by omega
                    have z3 : (q : Int) < (n : Int) + 1 := by omega
                    by_cases hvJ : v = jj
                    ·
                      as_aux_lemma =>
                        have z4 : ((v : Int) == (jj : Int)) = true := beq_iff_eq.2 (by omega)
                        rw [if_neg (show ¬ D < d by omega), if_pos (show d = D by omega)] at q3
                        have hpk := (Pst.heap P4.out).pk (show q < n + 1 by omega)
                        rw [q3] at hpk
                        obtain ⟨p0, p1, p2, p3, p4⟩ := hpk
                        have ch : wr.cell? ⟨HB, 0, none⟩ = some (.slice (some ⟨g', 0, none⟩) (n + 1) cap') := (Pst.hcell P4.out).cell 0
                        have RQ : Hid (RowAt wr xp lp yp fun i => .int .u8 (zp i)) := RowAt.below RP.out (Pst.bel P4.out)
                        clear q3 hvJ
                        go_wp2_with (go_at_call 23; refine (packetIs_self _ _ _ _ _ _ _ zp _ _ _ (PayOwn.row (Pst.pay P4.out)) RQ.out).mono ?_; rintro e w20 ⟨rfl, hb20⟩)
                        go_roundw
                        case rel => exact ⟨v + 1, by omega, by go_num, HV.out.trans (hb20.mono HV.out.size)⟩
                        case measure => simp [intOf]; omega
                    ·
                      as_aux_lemma =>
                        have z4 : ((v : Int) == (jj : Int)) = false := beq_eq_false_iff_ne.2 (by omega)
                        obtain ⟨k, hk, hFk, hcase⟩ : ∃ k, k < n ∧ F q = ⟨S k, T k, M k, Z k, A' k, L k, C' k⟩ ∧ Hid ((v < jj ∧ k = q) ∨ (jj < v ∧ k = (anc n).getD (d + 1) 0)) := by
                          by_cases hlt : v < jj
                          · have q5 := UL1.out d (by omega) (by omega)
                            rw [HQ.out] at q5
                            rw [if_pos (show D < d by omega), upd_other _ _ (show q ≠ n by omega)] at q3
                            exact ⟨q, q5, q3, Or.inl ⟨hlt, rfl⟩⟩
                          · have q5 := UL1.out (d + 1) (by omega) (by omega)
                            rw [if_neg (show ¬ D < d by omega), if_neg (show ¬ d = D by omega), upd_other _ _ (show (anc n).getD (d + 1) 0 ≠ n by omega)] at q3
                            exact ⟨_, q5, q3, Or.inr ⟨by omega, rfl⟩⟩
                        clear q3 hvJ
                        obtain ⟨g0, g1, g2, g3, g4, e0, e1, e2, e3, e4, ey, cl⟩ := GCC.out (by omega)
                        clear ey
                        subst e0
                        subst e1
                        subst e2
                        subst e3
                        subst e4
                        have CLH : Hid (_) := cl
                        have HFK : Hid (_) := hFk
                        clear cl hFk
                        have KEEP : Hid (∀ W : World, Below wr.heap.size wr W → (W.cell? ⟨HB, 0, none⟩ = some (.slice (some ⟨g', 0, none⟩) (n + 1) cap') ∧ (W.cell? ⟨g', q * 5, none⟩ = some (.int .i64 (S k)) ∧ W.cell? ⟨g', q * 5 + 1, none⟩ = some (.int .u32 (T k)) ∧ W.cell? ⟨g', q * 5 + 2, none⟩ = some (.bool (M k)) ∧ W.cell? ⟨g', q * 5 + 3, none⟩ = some (.int .i64 (Z k)) ∧ W.cell? ⟨g', q * 5 + 4, none⟩ = some (.slice (A' k) (L k) (C' k))) ∧ W.cell? ⟨g0, k, none⟩ = some (.int .i64 (S k)) ∧ W.cell? ⟨g1, k, none⟩ = some (.int .u32 (T k)) ∧ W.cell? ⟨g2, k, none⟩ = some (.bool (M k)) ∧ W.cell? ⟨g3, k, none⟩ = some (.int .i64 (Z k)) ∧ W.cell? ⟨g4, k, none⟩ = some (.slice (A' k) (L k) (C' k)))) := fun W hW => by
                          have P5 := Pst.below P4.out hW
                          have b := Clo.below CLH.out P5.bel
                          have hpk := P5.heap.pk (show q < n + 1 by omega)
                          rw [HFK.out] at hpk
                          exact ⟨P5.hcell.cell 0, hpk, b.k0.cell (by omega), b.k1.cell (by omega), b.k2.cell (by omega), b.k3.cell (by omega), b.k4.cell (by omega)⟩
                        have RK : Hid (∀ W : World, Below wr.heap.size wr W → RowAt W (A' k) (L k) (C' k) fun c => .int .u8 (z k c)) := fun W hW => (Clo.below CLH.out (Pst.below P4.out hW).bel).rows k (by omega)
                        have hww : Below wr.heap.size wr wr := Below.refl _ _
                        have yy0 : (k : Int) < (l0 : Int) := by omega
                        have yy1 : (k : Int) < (l1 : Int) := by omega
                        have yy2 : (k : Int) < (l2 : Int) := by omega
                        have yy3 : (k : Int) < (l3 : Int) := by omega
                        have yy4 : (k : Int) < (l4 : Int) := by omega
                        have ch : wr.cell? ⟨HB, 0, none⟩ = some (.slice (some ⟨g', 0, none⟩) (n + 1) cap') := (Pst.hcell P4.out).cell 0
                        rcases hcase.out with ⟨hlt, ek⟩ | ⟨hlt, ek⟩
                        · subst ek
                          have z5 : (v : Int) ≤ (jj : Int) := by omega
                          go_upto_region 49 with fail
                          clear q1 ch
                          go_region_held3 (fun W => (W.cell? ⟨HB, 0, none⟩ = some (.slice (some ⟨g', 0, none⟩) (n + 1) cap') ∧ (W.cell? ⟨g', k * 5, none⟩ = some (.int .i64 (S k)) ∧ W.cell? ⟨g', k * 5 + 1, none⟩ = some (.int .u32 (T k)) ∧ W.cell? ⟨g', k * 5 + 2, none⟩ = some (.bool (M k)) ∧ W.cell? ⟨g', k * 5 + 3, none⟩ = some (.int .i64 (Z k)) ∧ W.cell? ⟨g', k * 5 + 4, none⟩ = some (.slice (A' k) (L k) (C' k))) ∧ W.cell? ⟨g0, k, none⟩ = some (.int .i64 (S k)) ∧ W.cell? ⟨g1, k, none⟩ = some (.int .u32 (T k)) ∧ W.cell? ⟨g2, k, none⟩ = some (.bool (M k)) ∧ W.cell? ⟨g3, k, none⟩ = some (.int .i64 (Z k)) ∧ W.cell? ⟨g4, k, none⟩ = some (.slice (A' k) (L k) (C' k))))
                            ((refine KEEP.out _ ?_; first | with_reducible exact hb6 | with_reducible exact hww.drew))
                            ((go_at_call 23; refine (packetIs_self _ _ _ _ _ _ _ (z k) _ _ _ (RK.out _ hww.drew) (RK.out _ hww.drew)).mono ?_; rintro e w6 ⟨rfl, hb⟩; have hb6 : Below wr.heap.size wr w6 := hww.drew.trans (hb.mono hww.size)))
                          go_wp2
                          go_roundw
                          case rel => exact ⟨v + 1, by omega, by go_num, HV.out.trans (hb6.mono HV.out.size)⟩
                          case measure => simp [intOf]; omega
                        · have z5 : (jj : Int) < (v : Int) := by omega
                          have q6 := UC3.out wr HV.out (d + 1) (by omega)
                          rw [← ek] at q6
                          have z6 : (t : Int) - (v : Int) = ((d + 1 : Nat) : Int) := by omega
                          have z7 : ((d + 1 : Nat) : Int) < (t : Int) := by omega
                          obtain ⟨d1, hd1⟩ : ∃ d1, d + 1 = d1 := ⟨_, rfl⟩
                          rw [hd1] at q6 z6 z7
                          clear ek hd1
                          go_upto_region 49 with fail
                          clear q1 q6 ch
                          go_region_held3 (fun W => (W.cell? ⟨HB, 0, none⟩ = some (.slice (some ⟨g', 0, none⟩) (n + 1) cap') ∧ (W.cell? ⟨g', q * 5, none⟩ = some (.int .i64 (S k)) ∧ W.cell? ⟨g', q * 5 + 1, none⟩ = some (.int .u32 (T k)) ∧ W.cell? ⟨g', q * 5 + 2, none⟩ = some (.bool (M k)) ∧ W.cell? ⟨g', q * 5 + 3, none⟩ = some (.int .i64 (Z k)) ∧ W.cell? ⟨g', q * 5 + 4, none⟩ = some (.slice (A' k) (L k) (C' k))) ∧ W.cell? ⟨g0, k, none⟩ = some (.int .i64 (S k)) ∧ W.cell? ⟨g1, k, none⟩ = some (.int .u32 (T k)) ∧ W.cell? ⟨g2, k, none⟩ = some (.bool (M k)) ∧ W.cell? ⟨g3, k, none⟩ = some (.int .i64 (Z k)) ∧ W.cell? ⟨g4, k, none⟩ = some (.slice (A' k) (L k) (C' k))))
                            ((refine KEEP.out _ ?_; first | with_reducible exact hb6 | with_reducible exact hww.drew))
                            ((go_at_call 23; refine (packetIs_self _ _ _ _ _ _ _ (z k) _ _ _ (RK.out _ hww.drew) (RK.out _ hww.drew)).mono ?_; rintro e w6 ⟨rfl, hb⟩; have hb6 : Below wr.heap.size wr w6 := hww.drew.trans (hb.mono hww.size)))
                          go_wp2
                          go_roundw
                          case rel => exact ⟨v + 1, by omega, by go_num, HV.out.trans (hb6.mono HV.out.size)⟩
                          case measure => simp [intOf]; omega
                  · have z1 : (t : Int) ≤ (v : Int) := by omega
                    go_wp2
                    go_loopw [34] (ChkRel wr n) (fun x _ => n - (intOf x).toNat)
                    case atStart => exact ⟨0, Nat.zero_le _, rfl, Below.refl _ _⟩
                    case round =>
                      clear z1
                      obtain ⟨i, hin, rfl, HV2⟩ := hrel
                      have HV3 : Hid (_) := HV.out.trans (HV2.out.mono HV.out.size)
                      have P4 : Hid (_) := PX3.out wr HV3.out
                      have ch : wr.cell? ⟨HB, 0, none⟩ = some (.slice (some ⟨g', 0, none⟩) (n + 1) cap') := (Pst.hcell P4.out).cell 0
                      by_cases hil : i < n
                      ·
                        as_aux_lemma =>
                          have z1 : (i : Int) < (n : Int) := by omega
                          have z2 : (i : Int) < (n : Int) + 1 := by omega
                          have cu := (KO3.out wr HV3.out).cell (show i < n + 1 by omega)
                          by_cases hon : i ∈ anc n
                          · rw [decide_eq_true hon] at cu
                            clear hon
                            go_wp2
                            go_quiet (fail)
                            go_wp2
                            go_roundw
                            case rel => exact ⟨i + 1, by omega, by go_num, below_drewN HV2.out _⟩
                            case measure => simp [intOf]; omega
                          · have hFi : F i = ⟨S i, T i, M i, Z i, A' i, L i, C' i⟩ := by
                              rw [HD.out.off i hon, upd_other _ _ (show i ≠ n by omega)]
                            rw [decide_eq_false hon] at cu
                            obtain ⟨g0, g1, g2, g3, g4, e0, e1, e2, e3, e4, ey, cl⟩ := GCC.out (by omega)
                            clear ey
                            subst e0
                            subst e1
                            subst e2
                            subst e3
                            subst e4
                            have CLH : Hid (_) := cl
                            have HFI : Hid (_) := hFi
                            have HON : Hid (_) := hon
                            clear cl hFi hon
                            have KEEP : Hid (∀ W : World, Below wr.heap.size wr W → (W.cell? ⟨GO, i, none⟩ = some (.bool false) ∧ W.cell? ⟨HB, 0, none⟩ = some (.slice (some ⟨g', 0, none⟩) (n + 1) cap') ∧ (W.cell? ⟨g', i * 5, none⟩ = some (.int .i64 (S i)) ∧ W.cell? ⟨g', i * 5 + 1, none⟩ = some (.int .u32 (T i)) ∧ W.cell? ⟨g', i * 5 + 2, none⟩ = some (.bool (M i)) ∧ W.cell? ⟨g', i * 5 + 3, none⟩ = some (.int .i64 (Z i)) ∧ W.cell? ⟨g', i * 5 + 4, none⟩ = some (.slice (A' i) (L i) (C' i))) ∧ W.cell? ⟨g0, i, none⟩ = some (.int .i64 (S i)) ∧ W.cell? ⟨g1, i, none⟩ = some (.int .u32 (T i)) ∧ W.cell? ⟨g2, i, none⟩ = some (.bool (M i)) ∧ W.cell? ⟨g3, i, none⟩ = some (.int .i64 (Z i)) ∧ W.cell? ⟨g4, i, none⟩ = some (.slice (A' i) (L i) (C' i)))) := fun W hW => by
                              have P5 := Pst.below P4.out hW
                              have b := Clo.below CLH.out P5.bel
                              have hpk := P5.heap.pk (show i < n + 1 by omega)
                              rw [HFI.out] at hpk
                              have k5 := ((KO3.out wr HV3.out).below hW (KO3.out wr HV3.out).lt).cell (show i < n + 1 by omega)
                              rw [decide_eq_false HON.out] at k5
                              exact ⟨k5, P5.hcell.cell 0, hpk, b.k0.cell (by omega), b.k1.cell (by omega), b.k2.cell (by omega), b.k3.cell (by omega), b.k4.cell (by omega)⟩
                            have RK : Hid (∀ W : World, Below wr.heap.size wr W → RowAt W (A' i) (L i) (C' i) fun c => .int .u8 (z i c)) := fun W hW => (Clo.below CLH.out (Pst.below P4.out hW).bel).rows i (by omega)
                            have hww : Below wr.heap.size wr wr := Below.refl _ _
                            have yy0 : (i : Int) < (l0 : Int) := by omega
                            have yy1 : (i : Int) < (l1 : Int) := by omega
                            have yy2 : (i : Int) < (l2 : Int) := by omega
                            have yy3 : (i : Int) < (l3 : Int) := by omega
                            have yy4 : (i : Int) < (l4 : Int) := by omega
                            go_upto_region 54 with fail
                            clear cu ch
                            go_region_held3 (fun W => (W.cell? ⟨GO, i, none⟩ = some (.bool false) ∧ W.cell? ⟨HB, 0, none⟩ = some (.slice (some ⟨g', 0, none⟩) (n + 1) cap') ∧ (W.cell? ⟨g', i * 5, none⟩ = some (.int .i64 (S i)) ∧ W.cell? ⟨g', i * 5 + 1, none⟩ = some (.int .u32 (T i)) ∧ W.cell? ⟨g', i * 5 + 2, none⟩ = some (.bool (M i)) ∧ W.cell? ⟨g', i * 5 + 3, none⟩ = some (.int .i64 (Z i)) ∧ W.cell? ⟨g', i * 5 + 4, none⟩ = some (.slice (A' i) (L i) (C' i))) ∧ W.cell? ⟨g0, i, none⟩ = some (.int .i64 (S i)) ∧ W.cell? ⟨g1, i, none⟩ = some (.int .u32 (T i)) ∧ W.cell? ⟨g2, i, none⟩ = some (.bool (M i)) ∧ W.cell? ⟨g3, i, none⟩ = some (.int .i64 (Z i)) ∧ W.cell? ⟨g4, i, none⟩ = some (.slice (A' i) (L i) (C' i))))
                              ((refine KEEP.out _ ?_; first | with_reducible exact hb6 | with_reducible exact hww.drew))
                              ((go_at_call 23; refine (packetIs_self _ _ _ _ _ _ _ (z i) _ _ _ (RK.out _ hww.drew) (RK.out _ hww.drew)).mono ?_; rintro e w6 ⟨rfl, hb⟩; have hb6 : Below wr.heap.size wr w6 := hww.drew.trans (hb.mono hww.size)))
                            go_wp2
                            go_roundw
                            case rel => exact ⟨i + 1, by omega, by go_num, HV2.out.trans (hb6.mono HV2.out.size)⟩
                            case measure => simp [intOf]; omega
                      · have z1 : (n : Int) ≤ (i : Int) := by omega
                        go_wp2_with fail
                        refine (ordered_any g' cap' (n + 1) F wr (by omega) (Pst.heap P4.out) cap').mono ?_
                        rintro e w30 ⟨rfl, hb30⟩
                        rw [HORD.out]
                        go_wp2
                        go_ret
                        have b9 := (Pst.bel P4.out).trans (hb30.mono (Pst.bel P4.out).size)
                        exact ⟨rfl, H9.trans (b9.mono H9.size)⟩

end Go.Proofs.Qxb6605570a
