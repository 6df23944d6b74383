import Derived.Test.Qxb6605398aLoops
import Derived.Deep.DeepCutAuto
import Derived.Deep.CutBlock
namespace Go.Proofs.Qxb6605398a
open Go.RowKit

theorem skip_x (s : ByteArray) (x : Int) (w : World) (hs : s.size ≤ maxLen) (h0 : 0 ≤ x) (hi : x ≤ s.size) :
    Calls Try.prog 22 #[.string s, .int .i64 x] w fun e w' => ∃ j : Nat, e = .returned (.int .i64 j) ∧ j ≤ s.size ∧ x ≤ j ∧ Hid (Run digB (bt s) x.toNat j) ∧ w' = w := by
  obtain ⟨i, rfl⟩ := Int.eq_ofNat_of_zero_le h0
  refine (skip_any s i w hs (by omega)).mono ?_
  rintro e w' ⟨j, rfl, hj, hr, rfl⟩
  exact ⟨j, rfl, hj, by have := hr.1; omega, by rw [Int.toNat_natCast]; exact hr, rfl⟩

/-- The mantissa is good and ends at m. -/
def MantR (s : ByteArray) (m : Nat) : Prop := ∃ i, Run digB (bt s) 0 i ∧ ((bt s i = 46 ∧ Run digB (bt s) (i + 1) m ∧ ¬ (i = 0 ∧ m = 1)) ∨ (bt s i ≠ 46 ∧ i ≠ 0 ∧ m = i))
/-- There is no mantissa. -/
def NoMant (s : ByteArray) : Prop := (bt s 0 = 46 ∧ digB (bt s 1) = false) ∨ (bt s 0 ≠ 46 ∧ digB (bt s 0) = false)
def isE (c : Int) : Prop := c = 101 ∨ c = 69
def isSg (c : Int) : Prop := c = 43 ∨ c = 45
/-- What the rest from m on says. -/
def TailR (s : ByteArray) (m : Nat) (b : Bool) : Prop :=
  (isE (bt s m) ∧ ∃ p j, ((isSg (bt s (m + 1)) ∧ p = m + 2) ∨ (¬ isSg (bt s (m + 1)) ∧ p = m + 1)) ∧ Run digB (bt s) p j ∧ b = decide (j ≠ p ∧ j = s.size)) ∨
  (¬ isE (bt s m) ∧ b = decide (m = s.size))
def FlR (s : ByteArray) (b : Bool) : Prop := (NoMant s ∧ b = false) ∨ ∃ m, m ≤ s.size ∧ MantR s m ∧ TailR s m b

theorem to_e {s : ByteArray} {m : Nat} (hlt : m < s.size) {v : Bool} (h : (bits BinOp.or IntKind.u8 (s[m].toNat : Int) 32 == 101) = v) : (v = true → isE (bt s m)) ∧ (v = false → ¬ isE (bt s m)) := by
  have e := or20_e' (s[m].toNat : Int) (byte_bd _).1 (byte_bd _).2
  unfold or20 at e
  rw [h, bt_in hlt] at e
  unfold isE
  subst e
  exact ⟨fun h => by simpa using h, fun h => by simpa using h⟩
theorem not_e0 : ¬ isE 0 := by unfold isE; decide
theorem not_sg0 : ¬ isSg 0 := by unfold isSg; decide

theorem tail_eq {s : ByteArray} {m p j : Nat} (he : isE (bt s m)) (hp : (isSg (bt s (m + 1)) ∧ p = m + 2) ∨ (¬ isSg (bt s (m + 1)) ∧ p = m + 1)) (hr : Run digB (bt s) p j) (h : (j : Int) = p) : TailR s m false :=
  Or.inl ⟨he, p, j, hp, hr, by simp; omega⟩
theorem tail_ne {s : ByteArray} {m p j : Nat} (he : isE (bt s m)) (hp : (isSg (bt s (m + 1)) ∧ p = m + 2) ∨ (¬ isSg (bt s (m + 1)) ∧ p = m + 1)) (hr : Run digB (bt s) p j) (h : (j : Int) ≠ p) : TailR s m ((j : Int) == s.size) :=
  Or.inl ⟨he, p, j, hp, hr, by rw [Bool.eq_iff_iff]; simp; omega⟩
theorem tail_no {s : ByteArray} {m : Nat} (he : ¬ isE (bt s m)) : TailR s m ((m : Int) == s.size) :=
  Or.inr ⟨he, by rw [Bool.eq_iff_iff]; simp; omega⟩

theorem sg_1 {s : ByteArray} {k : Nat} (hlt : k < s.size) (h : (s[k].toNat : Int) = 43) : isSg (bt s k) := by
  rw [← bt_in hlt]; exact Or.inl h
theorem sg_2 {s : ByteArray} {k : Nat} (hlt : k < s.size) (h : ((s[k].toNat : Int) == 43) = true ∨ ((s[k].toNat : Int) == 45) = true) : isSg (bt s k) := by
  rw [← bt_in hlt]; rcases h with h | h
  · exact Or.inl (by simpa using h)
  · exact Or.inr (by simpa using h)
theorem sg_no {s : ByteArray} {k : Nat} (hlt : k < s.size) (h : ((s[k].toNat : Int) == 43) = false ∧ ((s[k].toNat : Int) == 45) = false) : ¬ isSg (bt s k) := by
  rw [← bt_in hlt]; rintro (g | g)
  · rw [g] at h; exact absurd h.1 (by decide)
  · rw [g] at h; exact absurd h.2 (by decide)
theorem run_at {s : ByteArray} {x : Int} {k j : Nat} (h : Run digB (bt s) x.toNat j) (e : x = k) : Run digB (bt s) k j := by
  subst e; rwa [Int.toNat_natCast] at h
theorem fl_of {s : ByteArray} {m : Nat} {b : Bool} (hm : m ≤ s.size) (h : MantR s m) (t : TailR s m b) : FlR s b := Or.inr ⟨m, hm, h, t⟩

set_option maxHeartbeats 1000000 in
theorem float_any (s : ByteArray) (w : World) (hs : s.size ≤ maxLen) :
    Calls Try.prog 19 #[.string s] w fun e w' => ∃ b, e = .returned (.bool b) ∧ FlR s b ∧ w' = w := by
  unfold maxLen at hs
  go_enter Try.func19, Try.ntmps19
  go_upto_block 0 with (go_at_call 22; refine (skip_x _ _ _ hs ?_ ?_).mono ?_; all_goals first | omega | (rintro e w1 ⟨i, rfl, hi, hxi, HI, rfl⟩))
  have HI' : Hid (Run digB (bt s) 0 i) := HI
  clear HI
  go_cut [3] (fun x w' => w' = w1 ∧ ∃ m : Nat, x = .int .i64 m ∧ m ≤ s.size ∧ Hid (MantR s m))
  case first =>
    go_wp2_with (go_at_call 22; refine (skip_x _ _ _ hs ?_ ?_).mono ?_; all_goals first | omega | (rintro e w2 ⟨j, rfl, hj, hxj, HJ, rfl⟩))
    · have hd : (↑s[i].toNat == (46 : Int)) = true := by assumption
      have h0 : i = 0 := by assumption
      have h1 : ((j : Int) == 1) = true := by assumption
      go_ret
      refine ⟨false, rfl, Or.inl ⟨Or.inl ⟨?_, ?_⟩, rfl⟩, rfl⟩
      · subst h0; rw [← bt_in (by assumption)]; simpa using hd
      · have e : j = 1 := by have : (j : Int) = 1 := by simpa using h1
                             omega
        subst e; exact HJ.out.2.2
    · have hd : (↑s[i].toNat == (46 : Int)) = true := by assumption
      have h0 : i = 0 := by assumption
      have h1 : ((j : Int) == 1) = false := by assumption
      have hlt : i < s.size := by assumption
      go_meet
      refine ⟨rfl, j, rfl, hj, i, HI'.out, Or.inl ⟨by rw [← bt_in hlt]; simpa using hd, ?_, ?_⟩⟩
      · have := HJ.out; rw [show ((i : Int) + 1).toNat = i + 1 from by omega] at this; exact this
      · have : ¬ (j : Int) = 1 := by simpa using h1
        omega
    · have hd : (↑s[i].toNat == (46 : Int)) = true := by assumption
      have h0 : ¬ i = 0 := by assumption
      have hlt : i < s.size := by assumption
      go_meet
      refine ⟨rfl, j, rfl, hj, i, HI'.out, Or.inl ⟨by rw [← bt_in hlt]; simpa using hd, ?_, ?_⟩⟩
      · have := HJ.out; rw [show ((i : Int) + 1).toNat = i + 1 from by omega] at this; exact this
      · omega
    · have hd : (↑s[i].toNat == (46 : Int)) = false := by assumption
      have h0 : ((i : Int) == 0) = true := by assumption
      have hlt : i < s.size := by assumption
      go_ret
      have e : i = 0 := by have : (i : Int) = 0 := by simpa using h0
                           omega
      subst e
      exact ⟨false, rfl, Or.inl ⟨Or.inr ⟨by rw [← bt_in hlt]; simpa using hd, HI'.out.2.2⟩, rfl⟩, rfl⟩
    · have hd : (↑s[i].toNat == (46 : Int)) = false := by assumption
      have h0 : ((i : Int) == 0) = false := by assumption
      have hlt : i < s.size := by assumption
      go_meet
      refine ⟨rfl, i, rfl, hi, i, HI'.out, Or.inr ⟨by rw [← bt_in hlt]; simpa using hd, ?_, rfl⟩⟩
      have : ¬ (i : Int) = 0 := by simpa using h0
      omega
    · have h0 : ((i : Int) == 0) = true := by assumption
      have hlt : ¬ i < s.size := by assumption
      go_ret
      have e : i = 0 := by have : (i : Int) = 0 := by simpa using h0
                           omega
      subst e
      exact ⟨false, rfl, Or.inl ⟨Or.inr ⟨by rw [bt_out (by omega)]; decide, HI'.out.2.2⟩, rfl⟩, rfl⟩
    · have h0 : ((i : Int) == 0) = false := by assumption
      have hlt : ¬ i < s.size := by assumption
      go_meet
      refine ⟨rfl, i, rfl, hi, i, HI'.out, Or.inr ⟨by rw [bt_out (by omega)]; decide, ?_, rfl⟩⟩
      have : ¬ (i : Int) = 0 := by simpa using h0
      omega
  case rest =>
    obtain ⟨rfl, m, rfl, hm, HM⟩ := hcut
    clear HI'
    go_wp2_with (go_at_call 22; refine (skip_x _ _ _ hs ?_ ?_).mono ?_; all_goals first | omega | (rintro e w2 ⟨j, rfl, hj, hxj, HJ, rfl⟩))
    · have hl : m < s.size := by assumption
      have he : (bits BinOp.or IntKind.u8 (s[m].toNat : Int) 32 == 101) = true := by assumption
      have hl' : m + 1 < s.size := by omega
      have hsg : (s[m + 1].toNat : Int) = 43 := by assumption
      have hq : ((j : Int) == (m : Int) + 1 + 1) = true := by assumption
      go_ret
      exact ⟨_, rfl, fl_of hm HM.out (tail_eq ((to_e hl he).1 rfl) (Or.inl ⟨sg_1 hl' hsg, rfl⟩) (run_at HJ.out (by omega)) (by have : (j : Int) = (m : Int) + 1 + 1 := by simpa using hq
                                                                                                                               omega)), rfl⟩
    · have hl : m < s.size := by assumption
      have he : (bits BinOp.or IntKind.u8 (s[m].toNat : Int) 32 == 101) = true := by assumption
      have hl' : m + 1 < s.size := by omega
      have hsg : (s[m + 1].toNat : Int) = 43 := by assumption
      have hq : ((j : Int) == (m : Int) + 1 + 1) = false := by assumption
      go_ret
      exact ⟨_, rfl, fl_of hm HM.out (tail_ne ((to_e hl he).1 rfl) (Or.inl ⟨sg_1 hl' hsg, rfl⟩) (run_at HJ.out (by omega)) (by have : ¬ (j : Int) = (m : Int) + 1 + 1 := by simpa using hq
                                                                                                                               omega)), rfl⟩
    · have hl : m < s.size := by assumption
      have he : (bits BinOp.or IntKind.u8 (s[m].toNat : Int) 32 == 101) = true := by assumption
      have hl' : m + 1 < s.size := by omega
      have hsg : ((s[m + 1].toNat : Int) == 43) = true ∨ ((s[m + 1].toNat : Int) == 45) = true := by assumption
      have hq : ((j : Int) == (m : Int) + 1 + 1) = true := by assumption
      go_ret
      exact ⟨_, rfl, fl_of hm HM.out (tail_eq ((to_e hl he).1 rfl) (Or.inl ⟨sg_2 hl' hsg, rfl⟩) (run_at HJ.out (by omega)) (by have : (j : Int) = (m : Int) + 1 + 1 := by simpa using hq
                                                                                                                               omega)), rfl⟩
    · have hl : m < s.size := by assumption
      have he : (bits BinOp.or IntKind.u8 (s[m].toNat : Int) 32 == 101) = true := by assumption
      have hl' : m + 1 < s.size := by omega
      have hsg : ((s[m + 1].toNat : Int) == 43) = true ∨ ((s[m + 1].toNat : Int) == 45) = true := by assumption
      have hq : ((j : Int) == (m : Int) + 1 + 1) = false := by assumption
      go_ret
      exact ⟨_, rfl, fl_of hm HM.out (tail_ne ((to_e hl he).1 rfl) (Or.inl ⟨sg_2 hl' hsg, rfl⟩) (run_at HJ.out (by omega)) (by have : ¬ (j : Int) = (m : Int) + 1 + 1 := by simpa using hq
                                                                                                                               omega)), rfl⟩
    · have hl : m < s.size := by assumption
      have he : (bits BinOp.or IntKind.u8 (s[m].toNat : Int) 32 == 101) = true := by assumption
      have hl' : m + 1 < s.size := by omega
      have hsg : ((s[m + 1].toNat : Int) == 43) = false ∧ ((s[m + 1].toNat : Int) == 45) = false := by assumption
      have hq : ((j : Int) == (m : Int) + 1) = true := by assumption
      go_ret
      exact ⟨_, rfl, fl_of hm HM.out (tail_eq ((to_e hl he).1 rfl) (Or.inr ⟨sg_no hl' hsg, rfl⟩) (run_at HJ.out (by omega)) (by have : (j : Int) = (m : Int) + 1 := by simpa using hq
                                                                                                                                omega)), rfl⟩
    · have hl : m < s.size := by assumption
      have he : (bits BinOp.or IntKind.u8 (s[m].toNat : Int) 32 == 101) = true := by assumption
      have hl' : m + 1 < s.size := by omega
      have hsg : ((s[m + 1].toNat : Int) == 43) = false ∧ ((s[m + 1].toNat : Int) == 45) = false := by assumption
      have hq : ((j : Int) == (m : Int) + 1) = false := by assumption
      go_ret
      exact ⟨_, rfl, fl_of hm HM.out (tail_ne ((to_e hl he).1 rfl) (Or.inr ⟨sg_no hl' hsg, rfl⟩) (run_at HJ.out (by omega)) (by have : ¬ (j : Int) = (m : Int) + 1 := by simpa using hq
                                                                                                                                omega)), rfl⟩
    · have hl : m < s.size := by assumption
      have he : (bits BinOp.or IntKind.u8 (s[m].toNat : Int) 32 == 101) = true := by assumption
      have hq : ((j : Int) == (m : Int) + 1) = true := by assumption
      go_ret
      exact ⟨_, rfl, fl_of hm HM.out (tail_eq ((to_e hl he).1 rfl) (Or.inr ⟨by rw [bt_out (by omega)]; exact not_sg0, rfl⟩) (run_at HJ.out (by omega)) (by have : (j : Int) = (m : Int) + 1 := by simpa using hq
                                                                                                                                                           omega)), rfl⟩
    · have hl : m < s.size := by assumption
      have he : (bits BinOp.or IntKind.u8 (s[m].toNat : Int) 32 == 101) = false := by assumption
      go_ret
      exact ⟨_, rfl, fl_of hm HM.out (tail_no ((to_e hl he).2 rfl)), rfl⟩
    · go_ret
      exact ⟨_, rfl, fl_of hm HM.out (tail_no (by rw [bt_out (by omega)]; exact not_e0)), rfl⟩

set_option maxHeartbeats 400000 in
theorem zzfloat_any (s : ByteArray) (w : World) (hs : s.size ≤ maxLen) :
    Calls Try.prog 14 #[.string s] w fun e w' => ∃ b, e = .returned (.bool b) ∧ FlR s b ∧ w' = w := by
  go_enter Try.func14, Try.ntmps14
  go_wp2_with (go_at_call 19; refine (float_any _ _ hs).mono ?_; rintro e w1 ⟨b, rfl, hb, rfl⟩)
  go_ret
  exact ⟨b, rfl, hb, rfl⟩

end Go.Proofs.Qxb6605398a
