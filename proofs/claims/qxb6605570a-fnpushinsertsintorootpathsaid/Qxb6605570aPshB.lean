import Derived.Test.Qxb6605570aPopB
namespace Go.Proofs.Qxb6605570a
open Go.RowKit

set_option maxHeartbeats 1000000 in
theorem bytes14_any (a0 a1 a2 a3 a ap : Option Addr) (l0 l1 l2 l3 c0 c1 c2 c3 len cap lp cp : Nat) (pS pT : Int) (pM : Bool) (pZ : Int) (A : Nat → Option Addr) (L C : Nat → Nat) (w : World) (hp : lp ≤ 2 ^ 63 - 1) (h0 : l0 ≤ 2 ^ 63 - 1) (h1 : l1 ≤ 2 ^ 63 - 1) (h2 : l2 ≤ 2 ^ 63 - 1) (h3 : l3 ≤ 2 ^ 63 - 1)
    (hl : len ≤ 2 ^ 63 - 1) (r : RowAt w a len cap fun i => .slice (A i) (L i) (C i)) (hL : ∀ i, i < len → L i ≤ 2 ^ 63 - 1) :
    Calls Try.prog 14 #[.slice a0 l0 c0, .slice a1 l1 c1, .slice a2 l2 c2, .slice a3 l3 c3, .slice a len cap, .int .i64 pS, .int .u32 pT, .bool pM, .int .i64 pZ, .slice ap lp cp] w fun e w' => Says e (∀ i, i < len → L i ≤ 1048576) ∧ w' = w := by
  have HL : Hid (_) := hL
  clear hL
  go_enter Try.func14, Try.ntmps14
  go_upto_block 0 with fail
  all_goals first
    | (go_ret; exact ⟨says_no, rfl⟩)
    | skip
  go_wp2
  go_loop [21, 22] (fun t x => ∃ (k : Nat) (s : Int), k ≤ len ∧ x = .int .i64 k ∧ t = .int .i64 s ∧ 0 ≤ s ∧ s ≤ 1048576 ∧ Hid (∀ i, i < k → L i ≤ 1048576)) (fun _ x => len - (intOf x).toNat)
  case atStart => exact ⟨0, _, Nat.zero_le _, rfl, rfl, by omega, by omega, fun i hi => by omega⟩
  case round =>
    obtain ⟨k, s, hk, rfl, rfl, hs0, hs1, HA⟩ := hrel
    by_cases hlt : k < len
    · obtain ⟨b, o, rfl, e1, p1⟩ := r.pos (by omega)
      have s1 := p1 k hlt
      have hLk := HL.out k hlt
      clear p1
      go_wp2
      · go_ret
        exact ⟨says_no, rfl⟩
      · go_ret
        exact ⟨says_no, rfl⟩
      · have q1 : s + (L k : Int) ≤ 1048576 := by assumption
        have q2 : (L k : Int) ≤ 1048576 := by assumption
        go_round
        case rel =>
          refine ⟨k + 1, _, by omega, by go_num, rfl, by omega, q1, ?_⟩
          intro i hi
          by_cases e : i = k
          · subst e; omega
          · exact HA.out i (by omega)
        case measure => simp [intOf]; omega
    · go_wp2
      all_goals
        go_ret
        first | exact ⟨says_no, rfl⟩ | exact ⟨says_yes fun i hi => HA.out i (by omega), rfl⟩

end Go.Proofs.Qxb6605570a
