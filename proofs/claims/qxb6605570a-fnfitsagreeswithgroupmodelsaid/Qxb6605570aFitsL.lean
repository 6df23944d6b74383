import Derived.Test.Qxb6605570aFitsW
namespace Go.Proofs.Qxb6605570a
open Go.RowKit

/-! The law's early returns. -/
set_option maxHeartbeats 1000000 in
set_option maxRecDepth 100000 in
theorem early_big (a0 a1 a2 a3 : Option Addr) (l0 l1 l2 l3 c0 c1 c2 c3 : Nat) (fr lim : Int) (w : World) (h0 : l0 ≤ 2 ^ 63 - 1) (h1 : l1 ≤ 2 ^ 63 - 1) (h2 : l2 ≤ 2 ^ 63 - 1) (h3 : l3 ≤ 2 ^ 63 - 1) (_hz' : decide (l0 + l1 + l2 + l3 ≤ 1048576) = false) :
    Calls Try.prog 3 #[.slice a0 l0 c0, .slice a1 l1 c1, .slice a2 l2 c2, .slice a3 l3 c3, .int .i64 fr, .int .i64 lim] w fun e w' => e = .returned (.bool true) ∧ w' = w := by
  go_enter Try.func3, Try.ntmps3
  go_wp2_with (go_at_call 7; refine (bytes7_any _ _ _ _ _ _ _ _ _ _ _ _ _ _ _ h0 h1 h2 h3).mono ?_; rintro e w' ⟨rfl, rfl⟩)
  go_ret
  exact ⟨rfl, rfl⟩

set_option maxHeartbeats 1000000 in
set_option maxRecDepth 100000 in
theorem early_l0 (a0 a1 a2 a3 : Option Addr) (l0 l1 l2 l3 c0 c1 c2 c3 : Nat) (fr lim : Int) (w : World) (h0 : l0 ≤ 2 ^ 63 - 1) (h1 : l1 ≤ 2 ^ 63 - 1) (h2 : l2 ≤ 2 ^ 63 - 1) (h3 : l3 ≤ 2 ^ 63 - 1) (_hz : l0 + l1 + l2 + l3 ≤ 1048576) (_hz' : decide (l0 + l1 + l2 + l3 ≤ 1048576) = true) (_g : 4096 < l0) :
    Calls Try.prog 3 #[.slice a0 l0 c0, .slice a1 l1 c1, .slice a2 l2 c2, .slice a3 l3 c3, .int .i64 fr, .int .i64 lim] w fun e w' => e = .returned (.bool true) ∧ w' = w := by
  go_enter Try.func3, Try.ntmps3
  go_wp2_with (go_at_call 7; refine (bytes7_any _ _ _ _ _ _ _ _ _ _ _ _ _ _ _ h0 h1 h2 h3).mono ?_; rintro e w' ⟨rfl, rfl⟩)
  go_ret
  exact ⟨rfl, rfl⟩

set_option maxHeartbeats 1000000 in
set_option maxRecDepth 100000 in
theorem early_l1 (a0 a1 a2 a3 : Option Addr) (l0 l1 l2 l3 c0 c1 c2 c3 : Nat) (fr lim : Int) (w : World) (h0 : l0 ≤ 2 ^ 63 - 1) (h1 : l1 ≤ 2 ^ 63 - 1) (h2 : l2 ≤ 2 ^ 63 - 1) (h3 : l3 ≤ 2 ^ 63 - 1) (_hz : l0 + l1 + l2 + l3 ≤ 1048576) (_hz' : decide (l0 + l1 + l2 + l3 ≤ 1048576) = true) (_s0 : l0 ≤ 4096) (_g : 4096 < l1) :
    Calls Try.prog 3 #[.slice a0 l0 c0, .slice a1 l1 c1, .slice a2 l2 c2, .slice a3 l3 c3, .int .i64 fr, .int .i64 lim] w fun e w' => e = .returned (.bool true) ∧ w' = w := by
  go_enter Try.func3, Try.ntmps3
  go_wp2_with (go_at_call 7; refine (bytes7_any _ _ _ _ _ _ _ _ _ _ _ _ _ _ _ h0 h1 h2 h3).mono ?_; rintro e w' ⟨rfl, rfl⟩)
  go_ret
  exact ⟨rfl, rfl⟩

set_option maxHeartbeats 1000000 in
set_option maxRecDepth 100000 in
theorem early_l2 (a0 a1 a2 a3 : Option Addr) (l0 l1 l2 l3 c0 c1 c2 c3 : Nat) (fr lim : Int) (w : World) (h0 : l0 ≤ 2 ^ 63 - 1) (h1 : l1 ≤ 2 ^ 63 - 1) (h2 : l2 ≤ 2 ^ 63 - 1) (h3 : l3 ≤ 2 ^ 63 - 1) (_hz : l0 + l1 + l2 + l3 ≤ 1048576) (_hz' : decide (l0 + l1 + l2 + l3 ≤ 1048576) = true) (_s0 : l0 ≤ 4096) (_s1 : l1 ≤ 4096) (_g : 4096 < l2) :
    Calls Try.prog 3 #[.slice a0 l0 c0, .slice a1 l1 c1, .slice a2 l2 c2, .slice a3 l3 c3, .int .i64 fr, .int .i64 lim] w fun e w' => e = .returned (.bool true) ∧ w' = w := by
  go_enter Try.func3, Try.ntmps3
  go_wp2_with (go_at_call 7; refine (bytes7_any _ _ _ _ _ _ _ _ _ _ _ _ _ _ _ h0 h1 h2 h3).mono ?_; rintro e w' ⟨rfl, rfl⟩)
  go_ret
  exact ⟨rfl, rfl⟩

set_option maxHeartbeats 1000000 in
set_option maxRecDepth 100000 in
theorem early_l3 (a0 a1 a2 a3 : Option Addr) (l0 l1 l2 l3 c0 c1 c2 c3 : Nat) (fr lim : Int) (w : World) (h0 : l0 ≤ 2 ^ 63 - 1) (h1 : l1 ≤ 2 ^ 63 - 1) (h2 : l2 ≤ 2 ^ 63 - 1) (h3 : l3 ≤ 2 ^ 63 - 1) (_hz : l0 + l1 + l2 + l3 ≤ 1048576) (_hz' : decide (l0 + l1 + l2 + l3 ≤ 1048576) = true) (_s0 : l0 ≤ 4096) (_s1 : l1 ≤ 4096) (_s2 : l2 ≤ 4096) (_g : 4096 < l3) :
    Calls Try.prog 3 #[.slice a0 l0 c0, .slice a1 l1 c1, .slice a2 l2 c2, .slice a3 l3 c3, .int .i64 fr, .int .i64 lim] w fun e w' => e = .returned (.bool true) ∧ w' = w := by
  go_enter Try.func3, Try.ntmps3
  go_wp2_with (go_at_call 7; refine (bytes7_any _ _ _ _ _ _ _ _ _ _ _ _ _ _ _ h0 h1 h2 h3).mono ?_; rintro e w' ⟨rfl, rfl⟩)
  go_ret
  exact ⟨rfl, rfl⟩

set_option maxHeartbeats 1000000 in
set_option maxRecDepth 100000 in
theorem early_lo (a0 a1 a2 a3 : Option Addr) (l0 l1 l2 l3 c0 c1 c2 c3 : Nat) (fr lim : Int) (w : World) (h0 : l0 ≤ 2 ^ 63 - 1) (h1 : l1 ≤ 2 ^ 63 - 1) (h2 : l2 ≤ 2 ^ 63 - 1) (h3 : l3 ≤ 2 ^ 63 - 1) (_hz : l0 + l1 + l2 + l3 ≤ 1048576) (_hz' : decide (l0 + l1 + l2 + l3 ≤ 1048576) = true) (_s0 : l0 ≤ 4096) (_s1 : l1 ≤ 4096) (_s2 : l2 ≤ 4096) (_s3 : l3 ≤ 4096) (_g : fr < -2305843009213693952) :
    Calls Try.prog 3 #[.slice a0 l0 c0, .slice a1 l1 c1, .slice a2 l2 c2, .slice a3 l3 c3, .int .i64 fr, .int .i64 lim] w fun e w' => e = .returned (.bool true) ∧ w' = w := by
  go_enter Try.func3, Try.ntmps3
  go_wp2_with (go_at_call 7; refine (bytes7_any _ _ _ _ _ _ _ _ _ _ _ _ _ _ _ h0 h1 h2 h3).mono ?_; rintro e w' ⟨rfl, rfl⟩)
  go_ret
  exact ⟨rfl, rfl⟩

set_option maxHeartbeats 1000000 in
set_option maxRecDepth 100000 in
theorem early_hi (a0 a1 a2 a3 : Option Addr) (l0 l1 l2 l3 c0 c1 c2 c3 : Nat) (fr lim : Int) (w : World) (h0 : l0 ≤ 2 ^ 63 - 1) (h1 : l1 ≤ 2 ^ 63 - 1) (h2 : l2 ≤ 2 ^ 63 - 1) (h3 : l3 ≤ 2 ^ 63 - 1) (_hz : l0 + l1 + l2 + l3 ≤ 1048576) (_hz' : decide (l0 + l1 + l2 + l3 ≤ 1048576) = true) (_s0 : l0 ≤ 4096) (_s1 : l1 ≤ 4096) (_s2 : l2 ≤ 4096) (_s3 : l3 ≤ 4096) (_g0 : -2305843009213693952 ≤ fr) (_g : 2305843009213693952 < fr) :
    Calls Try.prog 3 #[.slice a0 l0 c0, .slice a1 l1 c1, .slice a2 l2 c2, .slice a3 l3 c3, .int .i64 fr, .int .i64 lim] w fun e w' => e = .returned (.bool true) ∧ w' = w := by
  go_enter Try.func3, Try.ntmps3
  go_wp2_with (go_at_call 7; refine (bytes7_any _ _ _ _ _ _ _ _ _ _ _ _ _ _ _ h0 h1 h2 h3).mono ?_; rintro e w' ⟨rfl, rfl⟩)
  go_ret
  exact ⟨rfl, rfl⟩

theorem fits_core (a0 : Option Addr) (l0 c0 : Nat) (S : Nat → Int) (a1 : Option Addr) (l1 c1 : Nat) (T : Nat → Int) (a2 : Option Addr) (l2 c2 : Nat) (M : Nat → Bool) (a3 : Option Addr) (l3 c3 : Nat) (Z : Nat → Int) (fr lim : Int) (w : World)
    (r0 : RowAt w a0 l0 c0 fun i => .int .i64 (S i)) (r1 : RowAt w a1 l1 c1 fun i => .int .u32 (T i)) (r2 : RowAt w a2 l2 c2 fun i => .bool (M i)) (r3 : RowAt w a3 l3 c3 fun i => .int .i64 (Z i)) :
    Calls Try.prog 3 #[.slice a0 l0 c0, .slice a1 l1 c1, .slice a2 l2 c2, .slice a3 l3 c3, .int .i64 fr, .int .i64 lim] w fun e w' => e = .returned (.bool true) ∧ Below w.heap.size w w' := by
  have h0 := r0.form
  have h1 := r1.form
  have h2 := r2.form
  have h3 := r3.form
  have key : (Calls Try.prog 3 #[.slice a0 l0 c0, .slice a1 l1 c1, .slice a2 l2 c2, .slice a3 l3 c3, .int .i64 fr, .int .i64 lim] w fun e w' => e = .returned (.bool true) ∧ w' = w) →
      Calls Try.prog 3 #[.slice a0 l0 c0, .slice a1 l1 c1, .slice a2 l2 c2, .slice a3 l3 c3, .int .i64 fr, .int .i64 lim] w fun e w' => e = .returned (.bool true) ∧ Below w.heap.size w w' := by
    intro h
    refine h.mono ?_
    rintro e w' ⟨rfl, rfl⟩
    exact ⟨rfl, Below.refl _ _⟩
  by_cases hz : l0 + l1 + l2 + l3 ≤ 1048576
  case neg => exact key (early_big a0 a1 a2 a3 l0 l1 l2 l3 c0 c1 c2 c3 fr lim w h0 h1 h2 h3 (decide_eq_false hz))
  have hz' : decide (l0 + l1 + l2 + l3 ≤ 1048576) = true := decide_eq_true hz
  by_cases s0 : l0 ≤ 4096
  case neg => exact key (early_l0 a0 a1 a2 a3 l0 l1 l2 l3 c0 c1 c2 c3 fr lim w h0 h1 h2 h3 hz hz' (by omega))
  by_cases s1 : l1 ≤ 4096
  case neg => exact key (early_l1 a0 a1 a2 a3 l0 l1 l2 l3 c0 c1 c2 c3 fr lim w h0 h1 h2 h3 hz hz' s0 (by omega))
  by_cases s2 : l2 ≤ 4096
  case neg => exact key (early_l2 a0 a1 a2 a3 l0 l1 l2 l3 c0 c1 c2 c3 fr lim w h0 h1 h2 h3 hz hz' s0 s1 (by omega))
  by_cases s3 : l3 ≤ 4096
  case neg => exact key (early_l3 a0 a1 a2 a3 l0 l1 l2 l3 c0 c1 c2 c3 fr lim w h0 h1 h2 h3 hz hz' s0 s1 s2 (by omega))
  by_cases f0 : -2305843009213693952 ≤ fr
  case neg => exact key (early_lo a0 a1 a2 a3 l0 l1 l2 l3 c0 c1 c2 c3 fr lim w h0 h1 h2 h3 hz hz' s0 s1 s2 s3 (by omega))
  by_cases f1 : fr ≤ 2305843009213693952
  case neg => exact key (early_hi a0 a1 a2 a3 l0 l1 l2 l3 c0 c1 c2 c3 fr lim w h0 h1 h2 h3 hz hz' s0 s1 s2 s3 f0 (by omega))
  exact law_try a0 a1 a2 a3 l0 l1 l2 l3 c0 c1 c2 c3 S T M Z fr lim w r0 r1 r2 r3 s0 s1 s2 s3 f0 f1

end Go.Proofs.Qxb6605570a
