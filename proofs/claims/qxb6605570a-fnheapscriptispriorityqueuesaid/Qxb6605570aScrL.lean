import Derived.Test.Qxb6605570aScrZ
namespace Go.Proofs.Qxb6605570a
open Go.RowKit

/-! The law's early returns. -/

set_option maxHeartbeats 1000000 in
set_option maxRecDepth 100000 in
theorem script_early0 (ao a0 a1 a2 a3 a4 : Option Addr) (lo l0 l1 l2 l3 l4 co c0 c1 c2 c3 c4 : Nat) (A : Nat → Option Addr) (L C : Nat → Nat) (w : World) (ho : lo ≤ 2 ^ 63 - 1) (h0 : l0 ≤ 2 ^ 63 - 1) (h1 : l1 ≤ 2 ^ 63 - 1) (h2 : l2 ≤ 2 ^ 63 - 1) (h3 : l3 ≤ 2 ^ 63 - 1) (h4 : l4 ≤ 2 ^ 63 - 1)
    (r : RowAt w a4 l4 c4 fun i => .slice (A i) (L i) (C i)) (hL : ∀ i, i < l4 → L i ≤ 2 ^ 63 - 1)  (_g : 4096 < lo) :
    Calls Try.prog 6 #[.slice ao lo co, .slice a0 l0 c0, .slice a1 l1 c1, .slice a2 l2 c2, .slice a3 l3 c3, .slice a4 l4 c4] w fun e w' => e = .returned (.bool true) ∧ w' = w := by
  have HL : Hid (_) := hL
  clear hL
  go_enter Try.func6, Try.ntmps6
  go_wp2_with fail
  refine (bytes27_any _ _ _ _ _ _ _ _ _ _ _ _ _ _ _ _ _ _ A L C w ho h0 h1 h2 h3 h4 r HL.out).mono ?_
  rintro e w' ⟨⟨b, rfl, hb⟩, ew⟩
  have ew' := ew.symm
  clear ew
  subst ew'
  cases b with
  | false =>
    go_wp2
    go_ret
    exact ⟨rfl, rfl⟩
  | true =>
    clear hb
    go_wp2
    go_ret
    exact ⟨rfl, rfl⟩

set_option maxHeartbeats 1000000 in
set_option maxRecDepth 100000 in
theorem script_early1 (ao a0 a1 a2 a3 a4 : Option Addr) (lo l0 l1 l2 l3 l4 co c0 c1 c2 c3 c4 : Nat) (A : Nat → Option Addr) (L C : Nat → Nat) (w : World) (ho : lo ≤ 2 ^ 63 - 1) (h0 : l0 ≤ 2 ^ 63 - 1) (h1 : l1 ≤ 2 ^ 63 - 1) (h2 : l2 ≤ 2 ^ 63 - 1) (h3 : l3 ≤ 2 ^ 63 - 1) (h4 : l4 ≤ 2 ^ 63 - 1)
    (r : RowAt w a4 l4 c4 fun i => .slice (A i) (L i) (C i)) (hL : ∀ i, i < l4 → L i ≤ 2 ^ 63 - 1) (_s0 : lo ≤ 4096) (_g : 4096 < l0) :
    Calls Try.prog 6 #[.slice ao lo co, .slice a0 l0 c0, .slice a1 l1 c1, .slice a2 l2 c2, .slice a3 l3 c3, .slice a4 l4 c4] w fun e w' => e = .returned (.bool true) ∧ w' = w := by
  have HL : Hid (_) := hL
  clear hL
  go_enter Try.func6, Try.ntmps6
  go_wp2_with fail
  refine (bytes27_any _ _ _ _ _ _ _ _ _ _ _ _ _ _ _ _ _ _ A L C w ho h0 h1 h2 h3 h4 r HL.out).mono ?_
  rintro e w' ⟨⟨b, rfl, hb⟩, ew⟩
  have ew' := ew.symm
  clear ew
  subst ew'
  cases b with
  | false =>
    go_wp2
    go_ret
    exact ⟨rfl, rfl⟩
  | true =>
    clear hb
    go_wp2
    go_ret
    exact ⟨rfl, rfl⟩

set_option maxHeartbeats 1000000 in
set_option maxRecDepth 100000 in
theorem script_early2 (ao a0 a1 a2 a3 a4 : Option Addr) (lo l0 l1 l2 l3 l4 co c0 c1 c2 c3 c4 : Nat) (A : Nat → Option Addr) (L C : Nat → Nat) (w : World) (ho : lo ≤ 2 ^ 63 - 1) (h0 : l0 ≤ 2 ^ 63 - 1) (h1 : l1 ≤ 2 ^ 63 - 1) (h2 : l2 ≤ 2 ^ 63 - 1) (h3 : l3 ≤ 2 ^ 63 - 1) (h4 : l4 ≤ 2 ^ 63 - 1)
    (r : RowAt w a4 l4 c4 fun i => .slice (A i) (L i) (C i)) (hL : ∀ i, i < l4 → L i ≤ 2 ^ 63 - 1) (_s0 : lo ≤ 4096) (_s1 : l0 ≤ 4096) (_g : 4096 < l1) :
    Calls Try.prog 6 #[.slice ao lo co, .slice a0 l0 c0, .slice a1 l1 c1, .slice a2 l2 c2, .slice a3 l3 c3, .slice a4 l4 c4] w fun e w' => e = .returned (.bool true) ∧ w' = w := by
  have HL : Hid (_) := hL
  clear hL
  go_enter Try.func6, Try.ntmps6
  go_wp2_with fail
  refine (bytes27_any _ _ _ _ _ _ _ _ _ _ _ _ _ _ _ _ _ _ A L C w ho h0 h1 h2 h3 h4 r HL.out).mono ?_
  rintro e w' ⟨⟨b, rfl, hb⟩, ew⟩
  have ew' := ew.symm
  clear ew
  subst ew'
  cases b with
  | false =>
    go_wp2
    go_ret
    exact ⟨rfl, rfl⟩
  | true =>
    clear hb
    go_wp2
    go_ret
    exact ⟨rfl, rfl⟩

set_option maxHeartbeats 1000000 in
set_option maxRecDepth 100000 in
theorem script_early3 (ao a0 a1 a2 a3 a4 : Option Addr) (lo l0 l1 l2 l3 l4 co c0 c1 c2 c3 c4 : Nat) (A : Nat → Option Addr) (L C : Nat → Nat) (w : World) (ho : lo ≤ 2 ^ 63 - 1) (h0 : l0 ≤ 2 ^ 63 - 1) (h1 : l1 ≤ 2 ^ 63 - 1) (h2 : l2 ≤ 2 ^ 63 - 1) (h3 : l3 ≤ 2 ^ 63 - 1) (h4 : l4 ≤ 2 ^ 63 - 1)
    (r : RowAt w a4 l4 c4 fun i => .slice (A i) (L i) (C i)) (hL : ∀ i, i < l4 → L i ≤ 2 ^ 63 - 1) (_s0 : lo ≤ 4096) (_s1 : l0 ≤ 4096) (_s2 : l1 ≤ 4096) (_g : 4096 < l2) :
    Calls Try.prog 6 #[.slice ao lo co, .slice a0 l0 c0, .slice a1 l1 c1, .slice a2 l2 c2, .slice a3 l3 c3, .slice a4 l4 c4] w fun e w' => e = .returned (.bool true) ∧ w' = w := by
  have HL : Hid (_) := hL
  clear hL
  go_enter Try.func6, Try.ntmps6
  go_wp2_with fail
  refine (bytes27_any _ _ _ _ _ _ _ _ _ _ _ _ _ _ _ _ _ _ A L C w ho h0 h1 h2 h3 h4 r HL.out).mono ?_
  rintro e w' ⟨⟨b, rfl, hb⟩, ew⟩
  have ew' := ew.symm
  clear ew
  subst ew'
  cases b with
  | false =>
    go_wp2
    go_ret
    exact ⟨rfl, rfl⟩
  | true =>
    clear hb
    go_wp2
    go_ret
    exact ⟨rfl, rfl⟩

set_option maxHeartbeats 1000000 in
set_option maxRecDepth 100000 in
theorem script_early4 (ao a0 a1 a2 a3 a4 : Option Addr) (lo l0 l1 l2 l3 l4 co c0 c1 c2 c3 c4 : Nat) (A : Nat → Option Addr) (L C : Nat → Nat) (w : World) (ho : lo ≤ 2 ^ 63 - 1) (h0 : l0 ≤ 2 ^ 63 - 1) (h1 : l1 ≤ 2 ^ 63 - 1) (h2 : l2 ≤ 2 ^ 63 - 1) (h3 : l3 ≤ 2 ^ 63 - 1) (h4 : l4 ≤ 2 ^ 63 - 1)
    (r : RowAt w a4 l4 c4 fun i => .slice (A i) (L i) (C i)) (hL : ∀ i, i < l4 → L i ≤ 2 ^ 63 - 1) (_s0 : lo ≤ 4096) (_s1 : l0 ≤ 4096) (_s2 : l1 ≤ 4096) (_s3 : l2 ≤ 4096) (_g : 4096 < l3) :
    Calls Try.prog 6 #[.slice ao lo co, .slice a0 l0 c0, .slice a1 l1 c1, .slice a2 l2 c2, .slice a3 l3 c3, .slice a4 l4 c4] w fun e w' => e = .returned (.bool true) ∧ w' = w := by
  have HL : Hid (_) := hL
  clear hL
  go_enter Try.func6, Try.ntmps6
  go_wp2_with fail
  refine (bytes27_any _ _ _ _ _ _ _ _ _ _ _ _ _ _ _ _ _ _ A L C w ho h0 h1 h2 h3 h4 r HL.out).mono ?_
  rintro e w' ⟨⟨b, rfl, hb⟩, ew⟩
  have ew' := ew.symm
  clear ew
  subst ew'
  cases b with
  | false =>
    go_wp2
    go_ret
    exact ⟨rfl, rfl⟩
  | true =>
    clear hb
    go_wp2
    go_ret
    exact ⟨rfl, rfl⟩

set_option maxHeartbeats 1000000 in
set_option maxRecDepth 100000 in
theorem script_early5 (ao a0 a1 a2 a3 a4 : Option Addr) (lo l0 l1 l2 l3 l4 co c0 c1 c2 c3 c4 : Nat) (A : Nat → Option Addr) (L C : Nat → Nat) (w : World) (ho : lo ≤ 2 ^ 63 - 1) (h0 : l0 ≤ 2 ^ 63 - 1) (h1 : l1 ≤ 2 ^ 63 - 1) (h2 : l2 ≤ 2 ^ 63 - 1) (h3 : l3 ≤ 2 ^ 63 - 1) (h4 : l4 ≤ 2 ^ 63 - 1)
    (r : RowAt w a4 l4 c4 fun i => .slice (A i) (L i) (C i)) (hL : ∀ i, i < l4 → L i ≤ 2 ^ 63 - 1) (_s0 : lo ≤ 4096) (_s1 : l0 ≤ 4096) (_s2 : l1 ≤ 4096) (_s3 : l2 ≤ 4096) (_s4 : l3 ≤ 4096) (_g : 4096 < l4) :
    Calls Try.prog 6 #[.slice ao lo co, .slice a0 l0 c0, .slice a1 l1 c1, .slice a2 l2 c2, .slice a3 l3 c3, .slice a4 l4 c4] w fun e w' => e = .returned (.bool true) ∧ w' = w := by
  have HL : Hid (_) := hL
  clear hL
  go_enter Try.func6, Try.ntmps6
  go_wp2_with fail
  refine (bytes27_any _ _ _ _ _ _ _ _ _ _ _ _ _ _ _ _ _ _ A L C w ho h0 h1 h2 h3 h4 r HL.out).mono ?_
  rintro e w' ⟨⟨b, rfl, hb⟩, ew⟩
  have ew' := ew.symm
  clear ew
  subst ew'
  cases b with
  | false =>
    go_wp2
    go_ret
    exact ⟨rfl, rfl⟩
  | true =>
    clear hb
    go_wp2
    go_ret
    exact ⟨rfl, rfl⟩

theorem script_core (ao : Option Addr) (lo co : Nat) (O : Nat → Bool) (a0 : Option Addr) (l0 c0 : Nat) (S : Nat → Int) (a1 : Option Addr) (l1 c1 : Nat) (T : Nat → Int) (a2 : Option Addr) (l2 c2 : Nat) (M : Nat → Bool) (a3 : Option Addr) (l3 c3 : Nat) (Z : Nat → Int) (a4 : Option Addr) (l4 c4 : Nat) (A : Nat → Option Addr) (L C : Nat → Nat) (z : Nat → Nat → Int) (w : World)
    (ro : RowAt w ao lo co fun i => .bool (O i)) (r0 : RowAt w a0 l0 c0 fun i => .int .i64 (S i)) (r1 : RowAt w a1 l1 c1 fun i => .int .u32 (T i)) (r2 : RowAt w a2 l2 c2 fun i => .bool (M i)) (r3 : RowAt w a3 l3 c3 fun i => .int .i64 (Z i)) (r4 : RowAt w a4 l4 c4 fun i => .slice (A i) (L i) (C i)) (rr : Rows2 w l4 A L C z) :
    Calls Try.prog 6 #[.slice ao lo co, .slice a0 l0 c0, .slice a1 l1 c1, .slice a2 l2 c2, .slice a3 l3 c3, .slice a4 l4 c4] w fun e w' => e = .returned (.bool true) ∧ Below w.heap.size w w' := by
  have ho := ro.form
  have h0 := r0.form
  have h1 := r1.form
  have h2 := r2.form
  have h3 := r3.form
  have h4 := r4.form
  have hL : ∀ i, i < l4 → L i ≤ 2 ^ 63 - 1 := fun i hi => (rr i hi).form
  have key : (Calls Try.prog 6 #[.slice ao lo co, .slice a0 l0 c0, .slice a1 l1 c1, .slice a2 l2 c2, .slice a3 l3 c3, .slice a4 l4 c4] w fun e w' => e = .returned (.bool true) ∧ w' = w) →
      Calls Try.prog 6 #[.slice ao lo co, .slice a0 l0 c0, .slice a1 l1 c1, .slice a2 l2 c2, .slice a3 l3 c3, .slice a4 l4 c4] w fun e w' => e = .returned (.bool true) ∧ Below w.heap.size w w' := by
    intro h
    refine h.mono ?_
    rintro e w' ⟨rfl, rfl⟩
    exact ⟨rfl, Below.refl _ _⟩
  by_cases s0 : lo ≤ 4096
  case neg => exact key (script_early0 ao a0 a1 a2 a3 a4 lo l0 l1 l2 l3 l4 co c0 c1 c2 c3 c4 A L C w ho h0 h1 h2 h3 h4 r4 hL  (by omega))
  by_cases s1 : l0 ≤ 4096
  case neg => exact key (script_early1 ao a0 a1 a2 a3 a4 lo l0 l1 l2 l3 l4 co c0 c1 c2 c3 c4 A L C w ho h0 h1 h2 h3 h4 r4 hL s0 (by omega))
  by_cases s2 : l1 ≤ 4096
  case neg => exact key (script_early2 ao a0 a1 a2 a3 a4 lo l0 l1 l2 l3 l4 co c0 c1 c2 c3 c4 A L C w ho h0 h1 h2 h3 h4 r4 hL s0 s1 (by omega))
  by_cases s3 : l2 ≤ 4096
  case neg => exact key (script_early3 ao a0 a1 a2 a3 a4 lo l0 l1 l2 l3 l4 co c0 c1 c2 c3 c4 A L C w ho h0 h1 h2 h3 h4 r4 hL s0 s1 s2 (by omega))
  by_cases s4 : l3 ≤ 4096
  case neg => exact key (script_early4 ao a0 a1 a2 a3 a4 lo l0 l1 l2 l3 l4 co c0 c1 c2 c3 c4 A L C w ho h0 h1 h2 h3 h4 r4 hL s0 s1 s2 s3 (by omega))
  by_cases s5 : l4 ≤ 4096
  case neg => exact key (script_early5 ao a0 a1 a2 a3 a4 lo l0 l1 l2 l3 l4 co c0 c1 c2 c3 c4 A L C w ho h0 h1 h2 h3 h4 r4 hL s0 s1 s2 s3 s4 (by omega))
  by_cases hz : l0 = 0 ∨ l1 = 0 ∨ l2 = 0 ∨ l3 = 0 ∨ l4 = 0
  · exact script_zero ao a0 a1 a2 a3 a4 lo l0 l1 l2 l3 l4 co c0 c1 c2 c3 c4 O S T M Z A L C z w ro r0 r1 r2 r3 r4 rr s0 s1 s2 s3 s4 s5 hz
  · exact script_any ao a0 a1 a2 a3 a4 lo l0 l1 l2 l3 l4 co c0 c1 c2 c3 c4 O S T M Z A L C z w ro r0 r1 r2 r3 r4 rr s0 s1 s2 s3 s4 s5 (by omega) (by omega) (by omega) (by omega) (by omega)

end Go.Proofs.Qxb6605570a
