import Derived.Test.Qxb6605398aModel
import Derived.Test.Qxb6605398aGram
namespace Go.Proofs.Qxb6605398a
open Go.RowKit

theorem e_1 {s : ByteArray} {k : Nat} (hlt : k < s.size) (h : (s[k].toNat : Int) = 101) : isE (bt s k) := by
  rw [← bt_in hlt]; exact Or.inl h
theorem e_2 {s : ByteArray} {k : Nat} (hlt : k < s.size) (h : ((s[k].toNat : Int) == 101) = true ∨ ((s[k].toNat : Int) == 69) = true) : isE (bt s k) := by
  rw [← bt_in hlt]; rcases h with h | h
  · exact Or.inl (by simpa using h)
  · exact Or.inr (by simpa using h)
theorem e_no {s : ByteArray} {k : Nat} (hlt : k < s.size) (h : ((s[k].toNat : Int) == 101) = false ∧ ((s[k].toNat : Int) == 69) = false) : ¬ isE (bt s k) := by
  rw [← bt_in hlt]; rintro (g | g)
  · rw [g] at h; exact absurd h.1 (by decide)
  · rw [g] at h; exact absurd h.2 (by decide)

/-- What the split has laid: the mantissa t, the exponent's text x, whether there is one. -/
def Facts (s t x : ByteArray) (b : Bool) : Prop := SplitAt s t.size ∧ (∀ m, m < t.size → bt t m = bt s m) ∧
  (b = true → t.size < s.size ∧ x.size = s.size - (t.size + 1) ∧ ∀ m, bt x m = bt s (t.size + 1 + m)) ∧ (b = false → t.size = s.size)
def Facts2 (s t : ByteArray) : Prop := SplitAt s t.size ∧ (∀ m, m < t.size → bt t m = bt s m) ∧ ExpOk s t.size

theorem facts_split {s : ByteArray} {k : Nat} (hlt : k < s.size) (ha : ∀ m, m < k → ¬ isE (bt s m)) (he : isE (bt s k)) : Facts s (s.extract 0 k) (s.extract (k + 1) s.size) true := by
  have e1 : (s.extract 0 k).size = k := by rw [ByteArray.size_extract]; omega
  have e2 : (s.extract (k + 1) s.size).size = s.size - (k + 1) := by rw [ByteArray.size_extract]; omega
  refine ⟨⟨by omega, by rw [e1]; exact ha, Or.inl (by rw [e1]; exact he)⟩, ?_, ?_, by intro h; cases h⟩
  · rw [e1]; intro m hm; rw [bt_extract s 0 k m (by omega) (by omega), Nat.zero_add]
  · intro _
    rw [e1]
    refine ⟨hlt, e2, ?_⟩
    intro m
    by_cases h : k + 1 + m < s.size
    · rw [bt_extract s (k + 1) s.size m (Nat.le_refl _) h]
    · rw [bt_out (by omega), bt_out (by omega)]
theorem facts_whole {s : ByteArray} {k : Nat} (hk : k = s.size) (ha : ∀ m, m < k → ¬ isE (bt s m)) : Facts s s ⟨#[]⟩ false := by
  subst hk
  refine ⟨⟨Nat.le_refl _, ha, Or.inr rfl⟩, fun m _ => rfl, ?_, fun _ => rfl⟩
  intro h
  cases h
theorem facts_no {s t x : ByteArray} (h : Facts s t x false) : Facts2 s t := ⟨h.1, h.2.1, Or.inl (h.2.2.2 rfl)⟩
/-- The exponent's digits, read from place p of its text. -/
theorem facts_exp {s t x : ByteArray} {p : Nat} (h : Facts s t x true) (hp : (isSg (bt x 0) ∧ p = 1) ∨ (¬ isSg (bt x 0) ∧ p = 0)) :
    ExpOk s t.size ↔ (p < x.size ∧ ∀ m, p ≤ m → m < x.size → digB (bt x m) = true) := by
  obtain ⟨h1, h2, h3, _⟩ := h
  obtain ⟨g1, g2, g3⟩ := h3 rfl
  have g0 := g3 0
  rw [Nat.add_zero] at g0
  unfold ExpOk
  rw [← g0]
  constructor
  · rintro (h | ⟨q, hq, hlt, hall⟩)
    · omega
    · have e : q = t.size + 1 + p := by
        rcases hp with ⟨a, rfl⟩ | ⟨a, rfl⟩
        · rcases hq with ⟨_, rfl⟩ | ⟨c, _⟩
          · rfl
          · exact absurd a c
        · rcases hq with ⟨c, _⟩ | ⟨_, rfl⟩
          · exact absurd c a
          · rfl
      subst e
      refine ⟨by omega, ?_⟩
      intro m m1 m2
      rw [g3]; exact hall _ (by omega) (by omega)
  · rintro ⟨hlt, hall⟩
    right
    refine ⟨t.size + 1 + p, ?_, by omega, ?_⟩
    · rcases hp with ⟨a, rfl⟩ | ⟨a, rfl⟩
      · exact Or.inl ⟨a, rfl⟩
      · exact Or.inr ⟨a, rfl⟩
    · intro m m1 m2
      obtain ⟨d, rfl⟩ : ∃ d, m = t.size + 1 + d := ⟨m - (t.size + 1), by omega⟩
      rw [← g3]; exact hall d (by omega) (by omega)
def Outc (s : ByteArray) (b : Bool) : Prop := ∃ k, SplitAt s k ∧ (b = true ↔ (ExpOk s k ∧ MantOk (bt s) k))
theorem outc_no {s t x : ByteArray} {p : Nat} (h : Facts s t x true) (hp : (isSg (bt x 0) ∧ p = 1) ∨ (¬ isSg (bt x 0) ∧ p = 0))
    (hn : ¬ (p < x.size ∧ ∀ m, p ≤ m → m < x.size → digB (bt x m) = true)) : Outc s false := by
  refine ⟨t.size, h.1, ?_⟩
  constructor
  · intro h; cases h
  · rintro ⟨a, _⟩
    exact absurd ((facts_exp h hp).1 a) hn
theorem facts_yes {s t x : ByteArray} {p : Nat} (h : Facts s t x true) (hp : (isSg (bt x 0) ∧ p = 1) ∨ (¬ isSg (bt x 0) ∧ p = 0))
    (hy : p < x.size ∧ ∀ m, p ≤ m → m < x.size → digB (bt x m) = true) : Facts2 s t := ⟨h.1, h.2.1, (facts_exp h hp).2 hy⟩
theorem outc_bad {s t : ByteArray} {k : Nat} (h : Facts2 s t) (hk : k < t.size) (h1 : ptB (bt t k) = false) (h2 : digB (bt t k) = false) : Outc s false := by
  refine ⟨t.size, h.1, ?_⟩
  constructor
  · intro h; cases h
  · rintro ⟨_, a, _⟩
    rcases a k hk with g | g
    · rw [← h.2.1 k hk, h1] at g; cases g
    · rw [← h.2.1 k hk, h2] at g; cases g
theorem cnt_congr {p : Int → Bool} {f g : Nat → Int} {k : Nat} (h : ∀ m, m < k → f m = g m) : cnt p f k = cnt p g k := by
  induction k with
  | zero => rfl
  | succ k ih =>
    simp only [cnt]
    rw [ih (fun m hm => h m (by omega)), h k (by omega)]
theorem outc_fin {s t : ByteArray} {b : Bool} (h : Facts2 s t) (ha : ∀ m, m < t.size → ptB (bt t m) = true ∨ digB (bt t m) = true)
    (hb : b = true ↔ (cnt ptB (bt t) t.size ≤ 1 ∧ 1 ≤ cnt digB (bt t) t.size)) : Outc s b := by
  refine ⟨t.size, h.1, ?_⟩
  rw [hb]
  have c1 := cnt_congr (p := ptB) h.2.1
  have c2 := cnt_congr (p := digB) h.2.1
  constructor
  · rintro ⟨a, b⟩
    exact ⟨h.2.2, fun m hm => by rw [← h.2.1 m hm]; exact ha m hm, by omega, by omega⟩
  · rintro ⟨_, _, a, b⟩
    exact ⟨by omega, by omega⟩

theorem dig1_no {x : ByteArray} (h : (((x.size - 1 : Nat) : Int) == 0) = true ∨ (!allB digB (x.extract 1 x.size)) = true) : ¬ (1 < x.size ∧ ∀ m, 1 ≤ m → m < x.size → digB (bt x m) = true) := by
  rintro ⟨a, b⟩
  rcases h with h | h
  · have := beq_iff_eq.1 h
    omega
  · rw [(allB_extract (Nat.le_refl _)).2 b] at h; cases h
theorem dig1_yes {x : ByteArray} (h : (((x.size - 1 : Nat) : Int) == 0) = false ∧ (!allB digB (x.extract 1 x.size)) = false) : 1 < x.size ∧ ∀ m, 1 ≤ m → m < x.size → digB (bt x m) = true := by
  have a := beq_eq_false_iff_ne.1 h.1
  exact ⟨by omega, (allB_extract (Nat.le_refl _)).1 (by simpa using h.2)⟩
theorem dig0_no {x : ByteArray} (h : (!allB digB x) = true) : ¬ (0 < x.size ∧ ∀ m, 0 ≤ m → m < x.size → digB (bt x m) = true) := by
  rintro ⟨a, b⟩
  rw [allB_true.2 fun k hk => b k (Nat.zero_le _) hk] at h; cases h
theorem dig0_yes {x : ByteArray} (h0 : 0 < x.size) (h : (!allB digB x) = false) : 0 < x.size ∧ ∀ m, 0 ≤ m → m < x.size → digB (bt x m) = true :=
  ⟨h0, fun m _ hm => allB_true.1 (by simpa using h) m hm⟩

def Answ (s : ByteArray) (e : Ending) : Prop := ∃ b, e = .returned (.bool b) ∧ Outc s b
theorem answ {s : ByteArray} {b : Bool} (h : Outc s b) : Answ s (.returned (.bool b)) := ⟨b, rfl, h⟩

set_option maxHeartbeats 1000000 in
theorem model_any (s : ByteArray) (w : World) (hs : s.size ≤ maxLen) :
    Calls Try.prog 15 #[.string s] w fun e w' => Answ s e ∧ w' = w := by
  unfold maxLen at hs
  go_enter Try.func15, Try.ntmps15
  go_upto_block 0 with fail
  go_cut [3, 4, 5] (fun mant ex has w' => w' = w ∧ ∃ (t x : ByteArray) (b : Bool), mant = .string t ∧ ex = .string x ∧ has = .bool b ∧ t.size ≤ 2 ^ 63 - 1 ∧ x.size ≤ 2 ^ 63 - 1 ∧ Hid (Facts s t x b))
  case first =>
    go_wp2
    go_loop [3, 4, 5, 6] (fun a b c x => a = .string s ∧ b = .string ⟨#[]⟩ ∧ c = .bool false ∧ ∃ k : Nat, k ≤ s.size ∧ Hid (∀ m, m < k → ¬ isE (bt s m)) ∧ x = .int .i64 k) (fun _ _ _ i => s.size - (intOf i).toNat)
    case atStart => exact ⟨rfl, rfl, rfl, 0, by omega, fun m b => by omega, rfl⟩
    case round =>
      obtain ⟨rfl, rfl, rfl, k, hk, HA, rfl⟩ := hrel
      by_cases hlt : k < s.size
      · have HB : Hid (_) := bt_in hlt
        go_wp2
        · have h1 : (s[k].toNat : Int) = 101 := by assumption
          go_meet
          exact ⟨rfl, _, _, _, rfl, rfl, rfl, by rw [ByteArray.size_extract]; omega, by rw [ByteArray.size_extract]; omega, facts_split hlt HA.out (e_1 hlt h1)⟩
        · have h1 : ((s[k].toNat : Int) == 101) = true ∨ ((s[k].toNat : Int) == 69) = true := by assumption
          go_meet
          exact ⟨rfl, _, _, _, rfl, rfl, rfl, by rw [ByteArray.size_extract]; omega, by rw [ByteArray.size_extract]; omega, facts_split hlt HA.out (e_2 hlt h1)⟩
        · have h1 : ((s[k].toNat : Int) == 101) = false ∧ ((s[k].toNat : Int) == 69) = false := by assumption
          go_round
          case rel =>
            refine ⟨rfl, rfl, rfl, k + 1, by omega, ?_, by go_num⟩
            intro m hm
            by_cases e : m = k
            · subst e; exact e_no hlt h1
            · exact HA.out m (by omega)
          case measure => simp [intOf]; omega
      · go_wp2
        go_meet
        exact ⟨rfl, _, _, _, rfl, rfl, rfl, hs, Nat.zero_le _, facts_whole (by omega) HA.out⟩
  case rest =>
    obtain ⟨rfl, t, x, b, rfl, rfl, rfl, ht, hx, HF⟩ := hcut
    go_upto_if 35 with fail
    go_cut [3] (fun mant w' => w' = wc ∧ mant = .string t ∧ Hid (Facts2 s t))
    case first =>
      cases b with
      | false =>
        go_wp2
        go_meet
        exact ⟨rfl, rfl, facts_no HF.out⟩
      | true =>
        by_cases h0 : 0 < x.size
        · have hq : ((x.size : Int) == 0) = false := beq_eq_false_iff_ne.2 (by omega)
          have HX : Hid (_) := bt_in h0
          go_wp2_with (go_at_call 17; refine (allDigits_any _ _ ?_).mono ?_; all_goals first | (simp only [ByteArray.size_extract, maxLen]; omega) | (rintro e w' ⟨rfl, rfl⟩))
          · have h1 : (x[0].toNat : Int) = 43 := by assumption
            go_ret
            exact ⟨answ (outc_no HF.out (Or.inl ⟨sg_1 h0 h1, rfl⟩) (by rintro ⟨a, _⟩; omega)), rfl⟩
          · have h1 : (x[0].toNat : Int) = 43 := by assumption
            have h2 : (((x.size - 1 : Nat) : Int) == 0) = true ∨ (!allB digB (x.extract 1 x.size)) = true := by assumption
            go_ret
            exact ⟨answ (outc_no HF.out (Or.inl ⟨sg_1 h0 h1, rfl⟩) (dig1_no h2)), rfl⟩
          · have h1 : (x[0].toNat : Int) = 43 := by assumption
            have h2 : (((x.size - 1 : Nat) : Int) == 0) = false ∧ (!allB digB (x.extract 1 x.size)) = false := by assumption
            go_meet
            exact ⟨rfl, rfl, facts_yes HF.out (Or.inl ⟨sg_1 h0 h1, rfl⟩) (dig1_yes h2)⟩
          · have h1 : ((x[0].toNat : Int) == 43) = true ∨ ((x[0].toNat : Int) == 45) = true := by assumption
            go_ret
            exact ⟨answ (outc_no HF.out (Or.inl ⟨sg_2 h0 h1, rfl⟩) (by rintro ⟨a, _⟩; omega)), rfl⟩
          · have h1 : ((x[0].toNat : Int) == 43) = true ∨ ((x[0].toNat : Int) == 45) = true := by assumption
            have h2 : (((x.size - 1 : Nat) : Int) == 0) = true ∨ (!allB digB (x.extract 1 x.size)) = true := by assumption
            go_ret
            exact ⟨answ (outc_no HF.out (Or.inl ⟨sg_2 h0 h1, rfl⟩) (dig1_no h2)), rfl⟩
          · have h1 : ((x[0].toNat : Int) == 43) = true ∨ ((x[0].toNat : Int) == 45) = true := by assumption
            have h2 : (((x.size - 1 : Nat) : Int) == 0) = false ∧ (!allB digB (x.extract 1 x.size)) = false := by assumption
            go_meet
            exact ⟨rfl, rfl, facts_yes HF.out (Or.inl ⟨sg_2 h0 h1, rfl⟩) (dig1_yes h2)⟩
          · have h1 : ((x[0].toNat : Int) == 43) = false ∧ ((x[0].toNat : Int) == 45) = false := by assumption
            have h2 : (!allB digB x) = true := by assumption
            go_ret
            exact ⟨answ (outc_no HF.out (Or.inr ⟨sg_no h0 h1, rfl⟩) (dig0_no h2)), rfl⟩
          · have h1 : ((x[0].toNat : Int) == 43) = false ∧ ((x[0].toNat : Int) == 45) = false := by assumption
            have h2 : (!allB digB x) = false := by assumption
            go_meet
            exact ⟨rfl, rfl, facts_yes HF.out (Or.inr ⟨sg_no h0 h1, rfl⟩) (dig0_yes h0 h2)⟩
        · have hq : ((x.size : Int) == 0) = true := beq_iff_eq.2 (by omega)
          go_wp2
          go_ret
          exact ⟨answ (outc_no HF.out (Or.inr ⟨by rw [bt_out (by omega)]; exact not_sg0, rfl⟩) (by rintro ⟨a, _⟩; omega)), rfl⟩
    case rest =>
      obtain ⟨rfl, rfl, HF2⟩ := hcut
      clear HF
      go_wp2
      go_loop [7, 8, 9] (fun pts ds i => ∃ k : Nat, k ≤ t.size ∧ Hid (∀ m, m < k → ptB (bt t m) = true ∨ digB (bt t m) = true) ∧ pts = .int .i64 (cnt ptB (bt t) k) ∧ ds = .int .i64 (cnt digB (bt t) k) ∧ i = .int .i64 k) (fun _ _ i => t.size - (intOf i).toNat)
      case atStart => exact ⟨0, Nat.zero_le _, fun m b => by omega, rfl, rfl, rfl⟩
      case round =>
        obtain ⟨k, hk, HA, rfl, rfl, rfl⟩ := hrel
        have c1 : cnt ptB (bt t) k ≤ k := cnt_le
        have c2 : cnt digB (bt t) k ≤ k := cnt_le
        by_cases hlt : k < t.size
        · have HB : Hid (_) := bt_in hlt
          go_wp2_with (go_at_call 20; refine (zzDigit_any _ _).mono ?_; rintro e w' ⟨rfl, rfl⟩)
          · have h1 : ((t[k].toNat : Int) == 46) = true := by assumption
            have hp : ptB (bt t k) = true := by rw [← HB.out]; unfold ptB; simpa using h1
            go_round
            case rel =>
              refine ⟨k + 1, by omega, ?_, by rw [cnt_yes hp]; go_num, by rw [cnt_no (pt_nodig hp)], by go_num⟩
              intro m hm
              by_cases e : m = k
              · subst e; exact Or.inl hp
              · exact HA.out m (by omega)
            case measure => simp [intOf]; omega
          · have h1 : ((t[k].toNat : Int) == 46) = false := by assumption
            have h2 : digB (t[k].toNat : Int) = true := by assumption
            have hd : digB (bt t k) = true := by rw [← HB.out]; exact h2
            go_round
            case rel =>
              refine ⟨k + 1, by omega, ?_, by rw [cnt_no (dig_nopt hd)], by rw [cnt_yes hd]; go_num, by go_num⟩
              intro m hm
              by_cases e : m = k
              · subst e; exact Or.inr hd
              · exact HA.out m (by omega)
            case measure => simp [intOf]; omega
          · have h1 : ((t[k].toNat : Int) == 46) = false := by assumption
            have h2 : digB (t[k].toNat : Int) = false := by assumption
            go_ret
            exact ⟨answ (outc_bad HF2.out hlt (by rw [← HB.out]; unfold ptB; simpa using h1) (by rw [← HB.out]; exact h2)), rfl⟩
        · go_wp2
          · have h1 : ((cnt ptB (bt t) k : Nat) : Int) ≤ 1 := by assumption
            go_ret
            refine ⟨answ (outc_fin HF2.out (fun m hm => HA.out m (by omega)) ?_), rfl⟩
            have ek : t.size = k := by omega
            rw [ek]
            simp only [decide_eq_true_eq]
            omega
          · have h1 : 1 < ((cnt ptB (bt t) k : Nat) : Int) := by assumption
            go_ret
            refine ⟨answ (outc_fin HF2.out (fun m hm => HA.out m (by omega)) ?_), rfl⟩
            have ek : t.size = k := by omega
            rw [ek]
            constructor
            · intro h; cases h
            · omega

end Go.Proofs.Qxb6605398a
