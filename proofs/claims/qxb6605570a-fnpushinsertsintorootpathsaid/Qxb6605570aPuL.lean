import Derived.Test.Qxb6605570aPuW
namespace Go.Proofs.Qxb6605570a
open Go.RowKit

/-! The law's early returns. -/

set_option maxHeartbeats 1000000 in
set_option maxRecDepth 100000 in
theorem push_early0 (a0 a1 a2 a3 a4 ap : Option Addr) (l0 l1 l2 l3 l4 lp c0 c1 c2 c3 c4 cp : Nat) (pS pT : Int) (pM : Bool) (pZ : Int) (A : Nat → Option Addr) (L C : Nat → Nat) (w : World) (h0 : l0 ≤ 2 ^ 63 - 1) (h1 : l1 ≤ 2 ^ 63 - 1) (h2 : l2 ≤ 2 ^ 63 - 1) (h3 : l3 ≤ 2 ^ 63 - 1) (h4 : l4 ≤ 2 ^ 63 - 1) (hp : lp ≤ 2 ^ 63 - 1)
    (r : RowAt w a4 l4 c4 fun i => .slice (A i) (L i) (C i)) (hL : ∀ i, i < l4 → L i ≤ 2 ^ 63 - 1)  (_g : 4096 < l0) :
    Calls Try.prog 4 #[.slice a0 l0 c0, .slice a1 l1 c1, .slice a2 l2 c2, .slice a3 l3 c3, .slice a4 l4 c4, .int .i64 pS, .int .u32 pT, .bool pM, .int .i64 pZ, .slice ap lp cp] w fun e w' => e = .returned (.bool true) ∧ w' = w := by
  have HL : Hid (_) := hL
  clear hL
  go_enter Try.func4, Try.ntmps4
  go_wp2_with fail
  refine (bytes14_any _ _ _ _ _ _ _ _ _ _ _ _ _ _ _ _ _ _ _ _ _ _ A L C w hp h0 h1 h2 h3 h4 r HL.out).mono ?_
  rintro e w' ⟨⟨b, rfl, hb⟩, ew⟩
  have ew' := ew.symm
  clear ew
  subst ew'
  cases b with
  | false =>
    go_wp2
    go_ret
    exact ⟨rfl, rfl⟩
  | true =>
    clear hb
    go_wp2
    go_ret
    exact ⟨rfl, rfl⟩

set_option maxHeartbeats 1000000 in
set_option maxRecDepth 100000 in
theorem push_early1 (a0 a1 a2 a3 a4 ap : Option Addr) (l0 l1 l2 l3 l4 lp c0 c1 c2 c3 c4 cp : Nat) (pS pT : Int) (pM : Bool) (pZ : Int) (A : Nat → Option Addr) (L C : Nat → Nat) (w : World) (h0 : l0 ≤ 2 ^ 63 - 1) (h1 : l1 ≤ 2 ^ 63 - 1) (h2 : l2 ≤ 2 ^ 63 - 1) (h3 : l3 ≤ 2 ^ 63 - 1) (h4 : l4 ≤ 2 ^ 63 - 1) (hp : lp ≤ 2 ^ 63 - 1)
    (r : RowAt w a4 l4 c4 fun i => .slice (A i) (L i) (C i)) (hL : ∀ i, i < l4 → L i ≤ 2 ^ 63 - 1) (_s0 : l0 ≤ 4096) (_g : 4096 < l1) :
    Calls Try.prog 4 #[.slice a0 l0 c0, .slice a1 l1 c1, .slice a2 l2 c2, .slice a3 l3 c3, .slice a4 l4 c4, .int .i64 pS, .int .u32 pT, .bool pM, .int .i64 pZ, .slice ap lp cp] w fun e w' => e = .returned (.bool true) ∧ w' = w := by
  have HL : Hid (_) := hL
  clear hL
  go_enter Try.func4, Try.ntmps4
  go_wp2_with fail
  refine (bytes14_any _ _ _ _ _ _ _ _ _ _ _ _ _ _ _ _ _ _ _ _ _ _ A L C w hp h0 h1 h2 h3 h4 r HL.out).mono ?_
  rintro e w' ⟨⟨b, rfl, hb⟩, ew⟩
  have ew' := ew.symm
  clear ew
  subst ew'
  cases b with
  | false =>
    go_wp2
    go_ret
    exact ⟨rfl, rfl⟩
  | true =>
    clear hb
    go_wp2
    go_ret
    exact ⟨rfl, rfl⟩

set_option maxHeartbeats 1000000 in
set_option maxRecDepth 100000 in
theorem push_early2 (a0 a1 a2 a3 a4 ap : Option Addr) (l0 l1 l2 l3 l4 lp c0 c1 c2 c3 c4 cp : Nat) (pS pT : Int) (pM : Bool) (pZ : Int) (A : Nat → Option Addr) (L C : Nat → Nat) (w : World) (h0 : l0 ≤ 2 ^ 63 - 1) (h1 : l1 ≤ 2 ^ 63 - 1) (h2 : l2 ≤ 2 ^ 63 - 1) (h3 : l3 ≤ 2 ^ 63 - 1) (h4 : l4 ≤ 2 ^ 63 - 1) (hp : lp ≤ 2 ^ 63 - 1)
    (r : RowAt w a4 l4 c4 fun i => .slice (A i) (L i) (C i)) (hL : ∀ i, i < l4 → L i ≤ 2 ^ 63 - 1) (_s0 : l0 ≤ 4096) (_s1 : l1 ≤ 4096) (_g : 4096 < l2) :
    Calls Try.prog 4 #[.slice a0 l0 c0, .slice a1 l1 c1, .slice a2 l2 c2, .slice a3 l3 c3, .slice a4 l4 c4, .int .i64 pS, .int .u32 pT, .bool pM, .int .i64 pZ, .slice ap lp cp] w fun e w' => e = .returned (.bool true) ∧ w' = w := by
  have HL : Hid (_) := hL
  clear hL
  go_enter Try.func4, Try.ntmps4
  go_wp2_with fail
  refine (bytes14_any _ _ _ _ _ _ _ _ _ _ _ _ _ _ _ _ _ _ _ _ _ _ A L C w hp h0 h1 h2 h3 h4 r HL.out).mono ?_
  rintro e w' ⟨⟨b, rfl, hb⟩, ew⟩
  have ew' := ew.symm
  clear ew
  subst ew'
  cases b with
  | false =>
    go_wp2
    go_ret
    exact ⟨rfl, rfl⟩
  | true =>
    clear hb
    go_wp2
    go_ret
    exact ⟨rfl, rfl⟩

set_option maxHeartbeats 1000000 in
set_option maxRecDepth 100000 in
theorem push_early3 (a0 a1 a2 a3 a4 ap : Option Addr) (l0 l1 l2 l3 l4 lp c0 c1 c2 c3 c4 cp : Nat) (pS pT : Int) (pM : Bool) (pZ : Int) (A : Nat → Option Addr) (L C : Nat → Nat) (w : World) (h0 : l0 ≤ 2 ^ 63 - 1) (h1 : l1 ≤ 2 ^ 63 - 1) (h2 : l2 ≤ 2 ^ 63 - 1) (h3 : l3 ≤ 2 ^ 63 - 1) (h4 : l4 ≤ 2 ^ 63 - 1) (hp : lp ≤ 2 ^ 63 - 1)
    (r : RowAt w a4 l4 c4 fun i => .slice (A i) (L i) (C i)) (hL : ∀ i, i < l4 → L i ≤ 2 ^ 63 - 1) (_s0 : l0 ≤ 4096) (_s1 : l1 ≤ 4096) (_s2 : l2 ≤ 4096) (_g : 4096 < l3) :
    Calls Try.prog 4 #[.slice a0 l0 c0, .slice a1 l1 c1, .slice a2 l2 c2, .slice a3 l3 c3, .slice a4 l4 c4, .int .i64 pS, .int .u32 pT, .bool pM, .int .i64 pZ, .slice ap lp cp] w fun e w' => e = .returned (.bool true) ∧ w' = w := by
  have HL : Hid (_) := hL
  clear hL
  go_enter Try.func4, Try.ntmps4
  go_wp2_with fail
  refine (bytes14_any _ _ _ _ _ _ _ _ _ _ _ _ _ _ _ _ _ _ _ _ _ _ A L C w hp h0 h1 h2 h3 h4 r HL.out).mono ?_
  rintro e w' ⟨⟨b, rfl, hb⟩, ew⟩
  have ew' := ew.symm
  clear ew
  subst ew'
  cases b with
  | false =>
    go_wp2
    go_ret
    exact ⟨rfl, rfl⟩
  | true =>
    clear hb
    go_wp2
    go_ret
    exact ⟨rfl, rfl⟩

set_option maxHeartbeats 1000000 in
set_option maxRecDepth 100000 in
theorem push_early4 (a0 a1 a2 a3 a4 ap : Option Addr) (l0 l1 l2 l3 l4 lp c0 c1 c2 c3 c4 cp : Nat) (pS pT : Int) (pM : Bool) (pZ : Int) (A : Nat → Option Addr) (L C : Nat → Nat) (w : World) (h0 : l0 ≤ 2 ^ 63 - 1) (h1 : l1 ≤ 2 ^ 63 - 1) (h2 : l2 ≤ 2 ^ 63 - 1) (h3 : l3 ≤ 2 ^ 63 - 1) (h4 : l4 ≤ 2 ^ 63 - 1) (hp : lp ≤ 2 ^ 63 - 1)
    (r : RowAt w a4 l4 c4 fun i => .slice (A i) (L i) (C i)) (hL : ∀ i, i < l4 → L i ≤ 2 ^ 63 - 1) (_s0 : l0 ≤ 4096) (_s1 : l1 ≤ 4096) (_s2 : l2 ≤ 4096) (_s3 : l3 ≤ 4096) (_g : 4096 < l4) :
    Calls Try.prog 4 #[.slice a0 l0 c0, .slice a1 l1 c1, .slice a2 l2 c2, .slice a3 l3 c3, .slice a4 l4 c4, .int .i64 pS, .int .u32 pT, .bool pM, .int .i64 pZ, .slice ap lp cp] w fun e w' => e = .returned (.bool true) ∧ w' = w := by
  have HL : Hid (_) := hL
  clear hL
  go_enter Try.func4, Try.ntmps4
  go_wp2_with fail
  refine (bytes14_any _ _ _ _ _ _ _ _ _ _ _ _ _ _ _ _ _ _ _ _ _ _ A L C w hp h0 h1 h2 h3 h4 r HL.out).mono ?_
  rintro e w' ⟨⟨b, rfl, hb⟩, ew⟩
  have ew' := ew.symm
  clear ew
  subst ew'
  cases b with
  | false =>
    go_wp2
    go_ret
    exact ⟨rfl, rfl⟩
  | true =>
    clear hb
    go_wp2
    go_ret
    exact ⟨rfl, rfl⟩

set_option maxHeartbeats 1000000 in
set_option maxRecDepth 100000 in
theorem push_early5 (a0 a1 a2 a3 a4 ap : Option Addr) (l0 l1 l2 l3 l4 lp c0 c1 c2 c3 c4 cp : Nat) (pS pT : Int) (pM : Bool) (pZ : Int) (A : Nat → Option Addr) (L C : Nat → Nat) (w : World) (h0 : l0 ≤ 2 ^ 63 - 1) (h1 : l1 ≤ 2 ^ 63 - 1) (h2 : l2 ≤ 2 ^ 63 - 1) (h3 : l3 ≤ 2 ^ 63 - 1) (h4 : l4 ≤ 2 ^ 63 - 1) (hp : lp ≤ 2 ^ 63 - 1)
    (r : RowAt w a4 l4 c4 fun i => .slice (A i) (L i) (C i)) (hL : ∀ i, i < l4 → L i ≤ 2 ^ 63 - 1) (_s0 : l0 ≤ 4096) (_s1 : l1 ≤ 4096) (_s2 : l2 ≤ 4096) (_s3 : l3 ≤ 4096) (_s4 : l4 ≤ 4096) (_g : 1048576 < lp) :
    Calls Try.prog 4 #[.slice a0 l0 c0, .slice a1 l1 c1, .slice a2 l2 c2, .slice a3 l3 c3, .slice a4 l4 c4, .int .i64 pS, .int .u32 pT, .bool pM, .int .i64 pZ, .slice ap lp cp] w fun e w' => e = .returned (.bool true) ∧ w' = w := by
  have HL : Hid (_) := hL
  clear hL
  go_enter Try.func4, Try.ntmps4
  go_wp2_with fail
  refine (bytes14_any _ _ _ _ _ _ _ _ _ _ _ _ _ _ _ _ _ _ _ _ _ _ A L C w hp h0 h1 h2 h3 h4 r HL.out).mono ?_
  rintro e w' ⟨⟨b, rfl, hb⟩, ew⟩
  have ew' := ew.symm
  clear ew
  subst ew'
  cases b with
  | false =>
    go_wp2
    go_ret
    exact ⟨rfl, rfl⟩
  | true =>
    clear hb
    go_wp2
    go_ret
    exact ⟨rfl, rfl⟩

theorem push_core (a0 : Option Addr) (l0 c0 : Nat) (S : Nat → Int) (a1 : Option Addr) (l1 c1 : Nat) (T : Nat → Int) (a2 : Option Addr) (l2 c2 : Nat) (M : Nat → Bool) (a3 : Option Addr) (l3 c3 : Nat) (Z : Nat → Int) (a4 : Option Addr) (l4 c4 : Nat) (A : Nat → Option Addr) (L C : Nat → Nat) (z : Nat → Nat → Int) (pS pT : Int) (pM : Bool) (pZ : Int) (ap : Option Addr) (lp cp : Nat) (zp : Nat → Int) (w : World)
    (r0 : RowAt w a0 l0 c0 fun i => .int .i64 (S i)) (r1 : RowAt w a1 l1 c1 fun i => .int .u32 (T i)) (r2 : RowAt w a2 l2 c2 fun i => .bool (M i)) (r3 : RowAt w a3 l3 c3 fun i => .int .i64 (Z i)) (r4 : RowAt w a4 l4 c4 fun i => .slice (A i) (L i) (C i)) (rr : Rows2 w l4 A L C z) (rp : RowAt w ap lp cp fun i => .int .u8 (zp i)) :
    Calls Try.prog 4 #[.slice a0 l0 c0, .slice a1 l1 c1, .slice a2 l2 c2, .slice a3 l3 c3, .slice a4 l4 c4, .int .i64 pS, .int .u32 pT, .bool pM, .int .i64 pZ, .slice ap lp cp] w fun e w' => e = .returned (.bool true) ∧ Below w.heap.size w w' := by
  have h0 := r0.form
  have h1 := r1.form
  have h2 := r2.form
  have h3 := r3.form
  have h4 := r4.form
  have hp := rp.form
  have hL : ∀ i, i < l4 → L i ≤ 2 ^ 63 - 1 := fun i hi => (rr i hi).form
  have key : (Calls Try.prog 4 #[.slice a0 l0 c0, .slice a1 l1 c1, .slice a2 l2 c2, .slice a3 l3 c3, .slice a4 l4 c4, .int .i64 pS, .int .u32 pT, .bool pM, .int .i64 pZ, .slice ap lp cp] w fun e w' => e = .returned (.bool true) ∧ w' = w) →
      Calls Try.prog 4 #[.slice a0 l0 c0, .slice a1 l1 c1, .slice a2 l2 c2, .slice a3 l3 c3, .slice a4 l4 c4, .int .i64 pS, .int .u32 pT, .bool pM, .int .i64 pZ, .slice ap lp cp] w fun e w' => e = .returned (.bool true) ∧ Below w.heap.size w w' := by
    intro h
    refine h.mono ?_
    rintro e w' ⟨rfl, rfl⟩
    exact ⟨rfl, Below.refl _ _⟩
  by_cases s0 : l0 ≤ 4096
  case neg => exact key (push_early0 a0 a1 a2 a3 a4 ap l0 l1 l2 l3 l4 lp c0 c1 c2 c3 c4 cp pS pT pM pZ A L C w h0 h1 h2 h3 h4 hp r4 hL  (by omega))
  by_cases s1 : l1 ≤ 4096
  case neg => exact key (push_early1 a0 a1 a2 a3 a4 ap l0 l1 l2 l3 l4 lp c0 c1 c2 c3 c4 cp pS pT pM pZ A L C w h0 h1 h2 h3 h4 hp r4 hL s0 (by omega))
  by_cases s2 : l2 ≤ 4096
  case neg => exact key (push_early2 a0 a1 a2 a3 a4 ap l0 l1 l2 l3 l4 lp c0 c1 c2 c3 c4 cp pS pT pM pZ A L C w h0 h1 h2 h3 h4 hp r4 hL s0 s1 (by omega))
  by_cases s3 : l3 ≤ 4096
  case neg => exact key (push_early3 a0 a1 a2 a3 a4 ap l0 l1 l2 l3 l4 lp c0 c1 c2 c3 c4 cp pS pT pM pZ A L C w h0 h1 h2 h3 h4 hp r4 hL s0 s1 s2 (by omega))
  by_cases s4 : l4 ≤ 4096
  case neg => exact key (push_early4 a0 a1 a2 a3 a4 ap l0 l1 l2 l3 l4 lp c0 c1 c2 c3 c4 cp pS pT pM pZ A L C w h0 h1 h2 h3 h4 hp r4 hL s0 s1 s2 s3 (by omega))
  by_cases s5 : lp ≤ 1048576
  case neg => exact key (push_early5 a0 a1 a2 a3 a4 ap l0 l1 l2 l3 l4 lp c0 c1 c2 c3 c4 cp pS pT pM pZ A L C w h0 h1 h2 h3 h4 hp r4 hL s0 s1 s2 s3 s4 (by omega))
  exact pushlaw_any a0 a1 a2 a3 a4 ap l0 l1 l2 l3 l4 lp c0 c1 c2 c3 c4 cp S T M Z A L C z pS pT pM pZ zp w r0 r1 r2 r3 r4 rr rp s0 s1 s2 s3 s4 s5

end Go.Proofs.Qxb6605570a
