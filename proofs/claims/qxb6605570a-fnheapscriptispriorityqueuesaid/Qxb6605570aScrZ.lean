import Derived.Test.Qxb6605570aScrW
namespace Go.Proofs.Qxb6605570a
open Go.RowKit

set_option maxHeartbeats 4000000 in
set_option maxRecDepth 100000 in
/-- No packet at all. -/
theorem script_zero (ao a0 a1 a2 a3 a4 : Option Addr) (lo l0 l1 l2 l3 l4 co c0 c1 c2 c3 c4 : Nat) (O : Nat → Bool) (S T : Nat → Int) (M : Nat → Bool) (Z : Nat → Int) (A : Nat → Option Addr) (L C : Nat → Nat) (z : Nat → Nat → Int) (w : World)
    (ro : RowAt w ao lo co fun i => .bool (O i)) (r0 : RowAt w a0 l0 c0 fun i => .int .i64 (S i)) (r1 : RowAt w a1 l1 c1 fun i => .int .u32 (T i)) (r2 : RowAt w a2 l2 c2 fun i => .bool (M i)) (r3 : RowAt w a3 l3 c3 fun i => .int .i64 (Z i))
    (r4 : RowAt w a4 l4 c4 fun i => .slice (A i) (L i) (C i)) (rr : Rows2 w l4 A L C z)
    (ho : lo ≤ 4096) (h0 : l0 ≤ 4096) (h1 : l1 ≤ 4096) (h2 : l2 ≤ 4096) (h3 : l3 ≤ 4096) (h4 : l4 ≤ 4096) (hz : l0 = 0 ∨ l1 = 0 ∨ l2 = 0 ∨ l3 = 0 ∨ l4 = 0) :
    Calls Try.prog 6 #[.slice ao lo co, .slice a0 l0 c0, .slice a1 l1 c1, .slice a2 l2 c2, .slice a3 l3 c3, .slice a4 l4 c4] w fun e w' => e = .returned (.bool true) ∧ Below w.heap.size w w' := by
  have HN : Hid (min (min4 l0 l1 l2 l3) l4 = ((0 : Nat) : Int)) := by show _ = _; unfold min4; omega
  clear hz
  have hL : Hid (∀ i, i < l4 → L i ≤ 2 ^ 63 - 1) := fun i hi => (rr i hi).form
  go_enter Try.func6, Try.ntmps6
  go_wp2_with fail
  refine (bytes27_any _ _ _ _ _ _ _ _ _ _ _ _ _ _ _ _ _ _ A L C w (by omega) (by omega) (by omega) (by omega) (by omega) (by omega) r4 hL.out).mono ?_
  rintro e w' ⟨⟨b, rfl, hb⟩, ew⟩
  have ew' := ew.symm
  clear ew
  subst ew'
  cases b with
  | false =>
    go_wp2
    go_ret
    exact ⟨rfl, Below.refl _ _⟩
  | true =>
    have HB : Hid (_) := hb rfl
    clear hb
    go_wp2_with fail
    refine (heapBytes_any _ _ _ _ _ _ _ _ _ _ _ _ _ _ _ A L C _ h0 h1 h2 h3 h4 r4 hL.out).mono ?_
    rintro e w2 ⟨t, rfl, ht0, ht1, ew⟩
    have ew' := ew.symm
    clear ew
    subst ew'
    by_cases htb : 1048576 < (lo : Int) + t
    · go_wp2
      go_ret
      exact ⟨rfl, Below.refl _ _⟩
    go_wp2_with fail
    refine (clone11_any ao lo co O _ (by omega) ro).mono ?_
    rintro e w4 ⟨vo, rfl, hb4, oo⟩
    go_wp2_with fail
    refine (clone9_any a0 l0 c0 S _ (by omega) (r0.below hb4)).mono ?_
    rintro e w5 ⟨v0, rfl, hb5, o0⟩
    have H5 := hb4.trans (hb5.mono hb4.size)
    go_wp2_with fail
    refine (clone10_any a1 l1 c1 T _ (by omega) (r1.below H5)).mono ?_
    rintro e w6 ⟨v1, rfl, hb6, o1⟩
    have H6 := H5.trans (hb6.mono H5.size)
    go_wp2_with fail
    refine (clone11_any a2 l2 c2 M _ (by omega) (r2.below H6)).mono ?_
    rintro e w7 ⟨v2, rfl, hb7, o2⟩
    have H7 := H6.trans (hb7.mono H6.size)
    go_wp2_with fail
    refine (clone12_any a3 l3 c3 Z _ (by omega) (r3.below H7)).mono ?_
    rintro e w8 ⟨v3, rfl, hb8, o3⟩
    have H8 := H7.trans (hb8.mono H7.size)
    go_wp2_with fail
    refine (cloneAll_any a4 l4 c4 A L C z _ h4 (r4.below H8) (rr.below H8) HB.out).mono ?_
    rintro e w9 ⟨a4', c4', rfl, hb9, o4⟩
    have H9 := H8.trans (hb9.mono H8.size)
    obtain ⟨x0, y0, rfl, _⟩ := o0.form
    obtain ⟨x1, y1, rfl, _⟩ := o1.form
    obtain ⟨x2, y2, rfl, _⟩ := o2.form
    obtain ⟨x3, y3, rfl, _⟩ := o3.form
    obtain ⟨ao', co', rfl, hO⟩ := (((((oo.below hb5 (Nat.le_refl _)).below hb6 (Nat.le_refl _)).below hb7 (Nat.le_refl _)).below hb8 (Nat.le_refl _)).below hb9 (Nat.le_refl _)).form
    have HO : Hid (_) := hO
    clear HB o0 o1 o2 o3 o4 oo hb4 hb5 hb6 hb7 hb8 hb9 r0 r1 r2 r3 r4 rr ro hO H5 H6 H7 H8 hL
    obtain ⟨i3, hi3, hz30, hz31, hz32⟩ := info_parts Try.info3
    have hn4 : 0 ≤ 4096 := by omega
    go_wp2_with (first | (go_at_call 16; refine (min5_any _ _ _ _ _ _).mono ?_; rintro e w3 ⟨rfl, ew⟩; have ew' := ew.symm; clear ew; subst ew'; rw [HN.out]) | (at_make; refine wpList_make_heap _ rfl _ _ rfl _ _ 0 hn4 rfl rfl ?_))
    intro w10 y10 hb10
    have hs10 := hb10.size
    have hgb := y10.lt
    go_wp2_with (at_make; refine wpList_make_own _ rfl _ _ 25 rfl 0 3 i3 _ 1 Try.underlying25 hi3 hz30 hz31 _ _ _ 0 rfl rfl rfl (by rw [hz32]; omega) (by unfold maxLen; omega) (Nat.zero_le _) ?_)
    intro w12 hown hgrow
    have B1 : Below w9.heap.size w9 (w10.alloc (.cells #[.slice (some ⟨w9.heap.size, 0, none⟩) 0 0] 43)) := hb10.alloc hs10 _
    have B2 : Below w9.heap.size w9 w12 := B1.grown hgrow (by simp; omega) (fun k hk => by cases hk)
    have hc0 : w12.cell? ⟨w10.heap.size, 0, none⟩ = some (.slice (some ⟨w9.heap.size, 0, none⟩) 0 0) := ((Lies.new w10 _ 43).of_block (hgrow.block _ (by simp) (by simp))).cell 0
    clear hown hgrow y10 hb10 B1 hgb hs10 i3 hi3 hz30 hz31 hz32
    go_wp2
    go_loop [15, 16, 17] (fun a b c => ∃ s : Nat, s ≤ lo ∧ a = .slice (some ⟨w10.heap.size + 1, 0, none⟩) 0 0 ∧ b = .int .i64 0 ∧ c = .int .i64 s) (fun _ _ x => lo - (intOf x).toNat)
    case atStart => exact ⟨0, by omega, rfl, rfl, rfl⟩
    case round =>
      obtain ⟨s, hs, rfl, rfl, rfl⟩ := hrel
      by_cases hsl : s < lo
      · obtain ⟨go', ea, _, yo⟩ := HO.out (by omega)
        subst ea
        have c1 : w12.cell? ⟨go', s, none⟩ = some (.bool (O s)) := by rw [B2.cell yo.lt]; exact yo.cell hsl
        have z2 : (s : Int) < (lo : Int) := by omega
        cases hos : O s with
        | true =>
          rw [hos] at c1
          go_wp2
          go_round
          case rel => exact ⟨s + 1, by omega, rfl, rfl, by go_num⟩
          case measure => simp [intOf]; omega
        | false =>
          rw [hos] at c1
          go_wp2
          go_round
          case rel => exact ⟨s + 1, by omega, rfl, rfl, by go_num⟩
          case measure => simp [intOf]; omega
      · go_wp2
        go_ret
        exact ⟨rfl, H9.trans (B2.mono H9.size)⟩

end Go.Proofs.Qxb6605570a
