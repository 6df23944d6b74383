import Derived.Test.Qxb6605570aBase
import Derived.Deep.QuietTactic
import Derived.BigQuiet
namespace Go.Proofs.Qxb6605570a
open Go.RowKit

/-- A packet as it lies in memory: its payload by address, length, capacity. -/
structure Pk where
  seq : Int
  ts : Int
  mkr : Bool
  sz : Int
  pa : Option Addr
  pl : Nat
  pc : Nat

def Pk.pv (p : Pk) : Value := .slice p.pa p.pl p.pc

set_option maxHeartbeats 400000 in
theorem make_any (seq ts : Int) (mk : Bool) (sz : Int) (pa : Option Addr) (pl pc : Nat) (w : World) :
    Calls Try.prog 22 #[.int .i64 seq, .int .u32 ts, .bool mk, .int .i64 sz, .slice pa pl pc] w fun e w' =>
      e = .returned (.agg #[.int .i64 seq, .int .u32 ts, .bool mk, .int .i64 sz, .slice pa pl pc]) ∧ Below w.heap.size w w' := by
  go_enter Try.func22, Try.ntmps22
  go_wp2
  exact bodyPost_ret (v := .agg #[.int .i64 seq, .int .u32 ts, .bool mk, .int .i64 sz, .slice pa pl pc]) (by simp [results, Try.results22, go_sem]) rfl ⟨rfl, (Below.refl _ _).alloc (Nat.le_refl _) _⟩

set_option maxHeartbeats 400000 in
theorem fields_any (seq ts : Int) (mk : Bool) (sz : Int) (pa : Option Addr) (pl pc : Nat) (w : World) :
    Calls Try.prog 31 #[.agg #[.int .i64 seq, .int .u32 ts, .bool mk, .int .i64 sz, .slice pa pl pc]] w fun e w' =>
      e = .returned (.tuple #[.int .i64 seq, .int .u32 ts, .bool mk, .int .i64 sz, .slice pa pl pc]) ∧ Below w.heap.size w w' := by
  go_enter Try.func31, Try.ntmps31
  go_wp2
  go_quiet (fail)
  go_wp2
  refine bodyPost_ret (v := .tuple #[.int .i64 seq, .int .u32 ts, .bool mk, .int .i64 sz, .slice pa pl pc]) (by simp [results, Try.results31, go_sem]) rfl ⟨rfl, ?_⟩
  exact below_drewN ((Below.refl _ _).alloc (Nat.le_refl _) _) _

set_option maxHeartbeats 400000 in
theorem seqOf_any (seq ts : Int) (mk : Bool) (sz : Int) (pa : Option Addr) (pl pc : Nat) (w : World) :
    Calls Try.prog 28 #[.agg #[.int .i64 seq, .int .u32 ts, .bool mk, .int .i64 sz, .slice pa pl pc]] w fun e w' =>
      e = .returned (.int .i64 seq) ∧ Below w.heap.size w w' := by
  go_enter Try.func28, Try.ntmps28
  go_wp2_with (go_at_call 31; refine (fields_any _ _ _ _ _ _ _ _).mono ?_; rintro e w1 ⟨rfl, hb⟩)
  go_ret
  exact ⟨rfl, ((Below.refl _ _).alloc (Nat.le_refl _) _).trans (hb.mono (by simp))⟩

/-- Two rows of bytes, compared. -/
def eqB (l1 l2 : Nat) (f g : Nat → Int) : Bool := decide (l1 = l2 ∧ ∀ i, i < l1 → f i = g i)

set_option maxHeartbeats 400000 in
theorem bytesEqual_len (a1 a2 : Option Addr) (l1 l2 c1 c2 : Nat) (w : World) (hne : ((l1 : Int) != (l2 : Int)) = true) :
    Calls Try.prog 32 #[.slice a1 l1 c1, .slice a2 l2 c2] w fun e w' => e = .returned (.bool false) ∧ w' = w := by
  go_enter Try.func32, Try.ntmps32
  go_wp2
  go_ret
  exact ⟨rfl, rfl⟩

theorem RowAt.drewN {w : World} {a : Option Addr} {len cap : Nat} {f : Nat → Value} (h : RowAt w a len cap f) (q : Nat) : RowAt (w.drewN q) a len cap f := h

theorem eqB_true {l : Nat} {f g : Nat → Int} (h : ∀ i, i < l → f i = g i) : eqB l l f g = true := decide_eq_true ⟨rfl, h⟩
theorem eqB_false {l i : Nat} {f g : Nat → Int} (hi : i < l) (h : f i ≠ g i) : eqB l l f g = false := decide_eq_false fun x => h (x.2 i hi)

set_option maxHeartbeats 400000 in
theorem bytesEqual_same (a1 a2 : Option Addr) (l c1 c2 : Nat) (f g : Nat → Int) (w : World) (r1 : RowAt w a1 l c1 fun i => .int .u8 (f i)) (r2 : RowAt w a2 l c2 fun i => .int .u8 (g i)) :
    Calls Try.prog 32 #[.slice a1 l c1, .slice a2 l c2] w fun e w' => e = .returned (.bool (eqB l l f g)) ∧ Below w.heap.size w w' := by
  have hb : ((l : Int) != (l : Int)) = false := by simp
  have hl := r1.form
  go_enter Try.func32, Try.ntmps32
  go_wp2
  go_loopw [5] (fun x wr => ∃ k q : Nat, k ≤ l ∧ x = .int .i64 k ∧ wr = w.drewN q ∧ Hid (∀ i, i < k → f i = g i)) (fun x _ => l - (intOf x).toNat)
  case atStart => exact ⟨0, 0, Nat.zero_le _, rfl, rfl, fun i hi => by omega⟩
  case round =>
    obtain ⟨k, q, hk, rfl, rfl, HA⟩ := hrel
    by_cases hlt : k < l
    · obtain ⟨b1, o1, rfl, e1, p1⟩ := r1.pos (by omega)
      obtain ⟨b2, o2, rfl, e2, p2⟩ := r2.pos (by omega)
      have s1 := p1 k hlt
      have s2 := p2 k hlt
      have z1 : (k : Int) < (l : Int) := by omega
      clear p1 p2
      go_wp2
      go_quiet (fail)
      go_wp2
      · have hq : (f k != g k) = true := by assumption
        go_ret
        refine ⟨ret_bool (eqB_false hlt (by simpa using hq)).symm, ?_⟩
        exact below_drewN (below_drewN (Below.refl _ _) _) _
      · have hq : (f k != g k) = false := by assumption
        go_roundw
        case rel =>
          refine ⟨k + 1, _, by omega, by go_num, rfl, ?_⟩
          intro i hi
          by_cases e : i = k
          · subst e; simpa using hq
          · exact HA.out i (by omega)
        case measure => simp [intOf]; omega
    · go_wp2
      go_ret
      refine ⟨ret_bool (eqB_true fun i hi => HA.out i (by omega)).symm, ?_⟩
      exact below_drewN (Below.refl _ _) _

theorem bytesEqual_any (a1 a2 : Option Addr) (l1 l2 c1 c2 : Nat) (f g : Nat → Int) (w : World) (r1 : RowAt w a1 l1 c1 fun i => .int .u8 (f i)) (r2 : RowAt w a2 l2 c2 fun i => .int .u8 (g i)) :
    Calls Try.prog 32 #[.slice a1 l1 c1, .slice a2 l2 c2] w fun e w' => e = .returned (.bool (eqB l1 l2 f g)) ∧ Below w.heap.size w w' := by
  by_cases h : l1 = l2
  · subst h
    exact bytesEqual_same a1 a2 l1 c1 c2 f g w r1 r2
  · refine (bytesEqual_len a1 a2 l1 l2 c1 c2 w (bne_iff_ne.2 (by omega))).mono ?_
    rintro e w' ⟨rfl, rfl⟩
    exact ⟨ret_bool (decide_eq_false fun x => h x.1).symm, Below.refl _ _⟩

/-- A packet against five values. -/
def isB (s1 t1 : Int) (m1 : Bool) (z1 : Int) (l1 : Nat) (f : Nat → Int) (s2 t2 : Int) (m2 : Bool) (z2 : Int) (l2 : Nat) (g : Nat → Int) : Bool :=
  decide (s1 = s2 ∧ t1 = t2 ∧ m1 = m2 ∧ z1 = z2) && eqB l1 l2 f g

set_option maxHeartbeats 400000 in
theorem packetIs_any (s1 t1 : Int) (m1 : Bool) (z1 : Int) (a1 : Option Addr) (l1 c1 : Nat) (f : Nat → Int) (s2 t2 : Int) (m2 : Bool) (z2 : Int) (a2 : Option Addr) (l2 c2 : Nat) (g : Nat → Int) (w : World)
    (r1 : RowAt w a1 l1 c1 fun i => .int .u8 (f i)) (r2 : RowAt w a2 l2 c2 fun i => .int .u8 (g i)) :
    Calls Try.prog 23 #[.agg #[.int .i64 s1, .int .u32 t1, .bool m1, .int .i64 z1, .slice a1 l1 c1], .int .i64 s2, .int .u32 t2, .bool m2, .int .i64 z2, .slice a2 l2 c2] w fun e w' =>
      e = .returned (.bool (isB s1 t1 m1 z1 l1 f s2 t2 m2 z2 l2 g)) ∧ Below w.heap.size w w' := by
  by_cases hs : s1 = s2
  case neg =>
    have hs' : (s1 == s2) = false := beq_eq_false_iff_ne.2 hs
    have ev : isB s1 t1 m1 z1 l1 f s2 t2 m2 z2 l2 g = false := by unfold isB; rw [decide_eq_false (fun x => hs x.1)]; rfl
    go_enter Try.func23, Try.ntmps23
    go_wp2_with (go_at_call 31; refine (fields_any _ _ _ _ _ _ _ _).mono ?_; rintro e w1 ⟨rfl, hb⟩)
    go_ret
    exact ⟨ret_bool ev.symm, ((Below.refl _ _).alloc (Nat.le_refl _) _).trans (hb.mono (by simp))⟩
  have hs' : (s1 == s2) = true := beq_iff_eq.2 hs
  by_cases ht : t1 = t2
  case neg =>
    have ht' : (t1 == t2) = false := beq_eq_false_iff_ne.2 ht
    have ev : isB s1 t1 m1 z1 l1 f s2 t2 m2 z2 l2 g = false := by unfold isB; rw [decide_eq_false (fun x => ht x.2.1)]; rfl
    clear hs
    go_enter Try.func23, Try.ntmps23
    go_wp2_with (go_at_call 31; refine (fields_any _ _ _ _ _ _ _ _).mono ?_; rintro e w1 ⟨rfl, hb⟩)
    go_ret
    exact ⟨ret_bool ev.symm, ((Below.refl _ _).alloc (Nat.le_refl _) _).trans (hb.mono (by simp))⟩
  have ht' : (t1 == t2) = true := beq_iff_eq.2 ht
  by_cases hm : m1 = m2
  case neg =>
    have hm' : (m1 == m2) = false := beq_eq_false_iff_ne.2 hm
    have ev : isB s1 t1 m1 z1 l1 f s2 t2 m2 z2 l2 g = false := by unfold isB; rw [decide_eq_false (fun x => hm x.2.2.1)]; rfl
    clear hs ht
    go_enter Try.func23, Try.ntmps23
    go_wp2_with (go_at_call 31; refine (fields_any _ _ _ _ _ _ _ _).mono ?_; rintro e w1 ⟨rfl, hb⟩)
    go_ret
    exact ⟨ret_bool ev.symm, ((Below.refl _ _).alloc (Nat.le_refl _) _).trans (hb.mono (by simp))⟩
  have hm' : (m1 == m2) = true := beq_iff_eq.2 hm
  by_cases hz : z1 = z2
  case neg =>
    have hz' : (z1 == z2) = false := beq_eq_false_iff_ne.2 hz
    have ev : isB s1 t1 m1 z1 l1 f s2 t2 m2 z2 l2 g = false := by unfold isB; rw [decide_eq_false (fun x => hz x.2.2.2)]; rfl
    clear hs ht hm
    go_enter Try.func23, Try.ntmps23
    go_wp2_with (go_at_call 31; refine (fields_any _ _ _ _ _ _ _ _).mono ?_; rintro e w1 ⟨rfl, hb⟩)
    go_ret
    exact ⟨ret_bool ev.symm, ((Below.refl _ _).alloc (Nat.le_refl _) _).trans (hb.mono (by simp))⟩
  have hz' : (z1 == z2) = true := beq_iff_eq.2 hz
  have ev : isB s1 t1 m1 z1 l1 f s2 t2 m2 z2 l2 g = eqB l1 l2 f g := by unfold isB; rw [decide_eq_true ⟨hs, ht, hm, hz⟩]; rfl
  have EV : Hid (_) := ev
  clear ev hs ht hm hz
  go_enter Try.func23, Try.ntmps23
  go_wp2_with (go_at_call 31; refine (fields_any _ _ _ _ _ _ _ _).mono ?_; rintro e w1 ⟨rfl, hb⟩)
  have hb2 : Below w.heap.size w w1 := ((Below.refl _ _).alloc (Nat.le_refl _) _).trans (hb.mono (by simp))
  refine (bytesEqual_any _ _ _ _ _ _ f g w1 (r1.below hb2) (r2.below hb2)).mono ?_
  rintro e w2 ⟨rfl, hb3⟩
  go_wp2
  go_ret
  exact ⟨ret_bool EV.out.symm, hb2.trans (hb3.mono hb2.size)⟩

end Go.Proofs.Qxb6605570a
