import Derived.Test.Qxb6605398aRows
import Derived.WalkKit
import Derived.WalkSpells
import Derived.WalkLawsBesides
namespace Go.Proofs.Qxb6605398a
open Go.RowKit

def letB (c : Int) : Bool := decide ((97 ≤ c ∧ c ≤ 122) ∨ (65 ≤ c ∧ c ≤ 90))
def digB (c : Int) : Bool := decide (48 ≤ c ∧ c ≤ 57)
def or20 (c : Int) : Int := bits BinOp.or IntKind.u8 c 32

theorem or20_let : ∀ n : Fin 256, (decide (97 ≤ or20 n.val) && decide (or20 n.val ≤ 122)) = letB n.val := by decide +kernel
theorem or20_let' (c : Int) (h0 : 0 ≤ c) (h1 : c < 256) : (decide (97 ≤ or20 c) && decide (or20 c ≤ 122)) = letB c := by
  obtain ⟨n, rfl⟩ := Int.eq_ofNat_of_zero_le h0
  exact or20_let ⟨n, by omega⟩
theorem or20_e : ∀ n : Fin 256, (or20 n.val == 101) = (decide ((n.val : Int) = 101 ∨ (n.val : Int) = 69)) := by decide +kernel
theorem or20_e' (c : Int) (h0 : 0 ≤ c) (h1 : c < 256) : (or20 c == 101) = (decide (c = 101 ∨ c = 69)) := by
  obtain ⟨n, rfl⟩ := Int.eq_ofNat_of_zero_le h0
  exact or20_e ⟨n, by omega⟩

theorem ret_bool {a b : Bool} (h : a = b) : Ending.returned (.bool a) = .returned (.bool b) := by rw [h]

set_option maxHeartbeats 400000 in
theorem isLetter_any (c : Int) (w : World) (h0 : 0 ≤ c) (h1 : c < 256) :
    Calls Try.prog 21 #[.int .u8 c] w fun e w' => e = .returned (.bool (letB c)) ∧ w' = w := by
  have H : Hid (_) := or20_let' c h0 h1
  unfold or20 at H
  go_enter Try.func21, Try.ntmps21
  go_wp2
  all_goals
    go_ret
    refine ⟨ret_bool ?_, rfl⟩
    rw [← H.out]
    simp [*]
  all_goals omega

set_option maxHeartbeats 400000 in
theorem zzLetter_any (c : Int) (w : World) :
    Calls Try.prog 11 #[.int .u8 c] w fun e w' => e = .returned (.bool (letB c)) ∧ w' = w := by
  go_enter Try.func11, Try.ntmps11
  go_wp2
  all_goals
    go_ret
    refine ⟨ret_bool ?_, rfl⟩
    unfold letB
    rw [Bool.eq_iff_iff]
    simp
    omega

set_option maxHeartbeats 400000 in
theorem isDigit_any (c : Int) (w : World) :
    Calls Try.prog 23 #[.int .u8 c] w fun e w' => e = .returned (.bool (digB c)) ∧ w' = w := by
  go_enter Try.func23, Try.ntmps23
  go_wp2
  all_goals
    go_ret
    refine ⟨ret_bool ?_, rfl⟩
    unfold digB
    rw [Bool.eq_iff_iff]
    simp
    omega

set_option maxHeartbeats 400000 in
theorem zzDigit_any (c : Int) (w : World) :
    Calls Try.prog 20 #[.int .u8 c] w fun e w' => e = .returned (.bool (digB c)) ∧ w' = w := by
  go_enter Try.func20, Try.ntmps20
  go_wp2
  all_goals
    go_ret
    refine ⟨ret_bool ?_, rfl⟩
    unfold digB
    rw [Bool.eq_iff_iff]
    simp
    omega

theorem byte_bd (b : UInt8) : 0 ≤ (b.toNat : Int) ∧ (b.toNat : Int) < 256 := by
  have := b.toNat_lt
  omega

end Go.Proofs.Qxb6605398a
