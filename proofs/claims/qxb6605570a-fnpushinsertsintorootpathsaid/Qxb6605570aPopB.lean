import Derived.Test.Qxb6605570aMatch
namespace Go.Proofs.Qxb6605570a
open Go.RowKit

/-- It answers a bool; where it says true, P holds. -/
def Says (e : Ending) (P : Prop) : Prop := ∃ b, e = .returned (.bool b) ∧ (b = true → P)
theorem says_no {P : Prop} : Says (.returned (.bool false)) P := ⟨false, rfl, fun h => by cases h⟩
theorem says_yes {P : Prop} (h : P) : Says (.returned (.bool true)) P := ⟨true, rfl, fun _ => h⟩

set_option maxHeartbeats 1000000 in
theorem bytes25_any (a0 a1 a2 a3 a : Option Addr) (l0 l1 l2 l3 c0 c1 c2 c3 len cap : Nat) (A : Nat → Option Addr) (L C : Nat → Nat) (w : World) (h0 : l0 ≤ 2 ^ 63 - 1) (h1 : l1 ≤ 2 ^ 63 - 1) (h2 : l2 ≤ 2 ^ 63 - 1) (h3 : l3 ≤ 2 ^ 63 - 1)
    (hl : len ≤ 2 ^ 63 - 1) (r : RowAt w a len cap fun i => .slice (A i) (L i) (C i)) (hL : ∀ i, i < len → L i ≤ 2 ^ 63 - 1) :
    Calls Try.prog 25 #[.slice a0 l0 c0, .slice a1 l1 c1, .slice a2 l2 c2, .slice a3 l3 c3, .slice a len cap] w fun e w' => Says e (∀ i, i < len → L i ≤ 1048576) ∧ w' = w := by
  have HL : Hid (_) := hL
  clear hL
  go_enter Try.func25, Try.ntmps25
  go_upto_block 0 with fail
  all_goals first
    | (go_ret; exact ⟨says_no, rfl⟩)
    | skip
  go_wp2
  go_loop [11, 12] (fun t x => ∃ (k : Nat) (s : Int), k ≤ len ∧ x = .int .i64 k ∧ t = .int .i64 s ∧ 0 ≤ s ∧ s ≤ 1048576 ∧ Hid (∀ i, i < k → L i ≤ 1048576)) (fun _ x => len - (intOf x).toNat)
  case atStart => exact ⟨0, _, Nat.zero_le _, rfl, rfl, by omega, by omega, fun i hi => by omega⟩
  case round =>
    obtain ⟨k, s, hk, rfl, rfl, hs0, hs1, HA⟩ := hrel
    by_cases hlt : k < len
    · obtain ⟨b, o, rfl, e1, p1⟩ := r.pos (by omega)
      have s1 := p1 k hlt
      have hLk := HL.out k hlt
      clear p1
      go_wp2
      · go_ret
        exact ⟨says_no, rfl⟩
      · go_ret
        exact ⟨says_no, rfl⟩
      · have q1 : s + (L k : Int) ≤ 1048576 := by assumption
        have q2 : (L k : Int) ≤ 1048576 := by assumption
        go_round
        case rel =>
          refine ⟨k + 1, _, by omega, by go_num, rfl, by omega, q1, ?_⟩
          intro i hi
          by_cases e : i = k
          · subst e; omega
          · exact HA.out i (by omega)
        case measure => simp [intOf]; omega
    · go_wp2
      go_ret
      exact ⟨says_yes fun i hi => HA.out i (by omega), rfl⟩

end Go.Proofs.Qxb6605570a
