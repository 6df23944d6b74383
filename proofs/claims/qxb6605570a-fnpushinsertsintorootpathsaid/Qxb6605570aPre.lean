import Derived.Test.Qxb6605570aPkt
import Derived.Deep.DeepCutAuto
import Derived.Deep.CutBlock
namespace Go.Proofs.Qxb6605570a
open Go.RowKit

def heapB (S : Nat → Int) (n : Nat) : Bool := decide (∀ i, i < n → 1 ≤ i → S ((i - 1) / 2) ≤ S i)

set_option maxHeartbeats 400000 in
theorem isHeap_any (a : Option Addr) (len cap n : Nat) (S : Nat → Int) (w : World) (r : RowAt w a len cap fun i => .int .i64 (S i)) (hn : n ≤ len) (hl : len ≤ 4096) :
    Calls Try.prog 17 #[.slice a len cap, .int .i64 n] w fun e w' => e = .returned (.bool (heapB S n)) ∧ Below w.heap.size w w' := by
  go_enter Try.func17, Try.ntmps17
  go_wp2
  go_loopw [5] (fun x wr => ∃ k q : Nat, 1 ≤ k ∧ x = .int .i64 k ∧ wr = w.drewN q ∧ Hid (∀ i, 1 ≤ i → i < k → S ((i - 1) / 2) ≤ S i)) (fun x _ => n - (intOf x).toNat)
  case atStart => exact ⟨1, 0, Nat.le_refl _, rfl, rfl, fun i h1 h2 => by omega⟩
  case round =>
    obtain ⟨k, q, hk, rfl, rfl, HA⟩ := hrel
    by_cases hlt : k < n
    · obtain ⟨b, o, rfl, e1, p1⟩ := r.pos (by omega)
      have s1 := p1 k (by omega)
      obtain ⟨u, hu⟩ : ∃ u, (k - 1) / 2 = u := ⟨_, rfl⟩
      have hul : u < k := by omega
      have s2 := p1 u (by omega)
      have eu : ((k : Int) - 1) / 2 = (u : Int) := by omega
      have z1 : (k : Int) < (len : Int) := by omega
      have z2 : (u : Int) < (len : Int) := by omega
      have HU : Hid (_) := hu
      clear p1 hu
      go_wp2
      go_quiet (fail)
      go_wp2
      · have hq : S k < S u := by assumption
        go_ret
        refine ⟨ret_bool (decide_eq_false fun h => ?_).symm, ?_⟩
        · have := h k hlt hk
          rw [HU.out] at this; omega
        · exact below_drewN (below_drewN (Below.refl _ _) _) _
      · have hq : S u ≤ S k := by assumption
        go_roundw
        case rel =>
          refine ⟨k + 1, _, by omega, by go_num, rfl, ?_⟩
          intro i h1 h2
          by_cases e : i = k
          · subst e; rw [HU.out]; exact hq
          · exact HA.out i h1 (by omega)
        case measure => simp [intOf]; omega
    · go_wp2
      go_ret
      refine ⟨ret_bool (decide_eq_true fun i h2 h1 => HA.out i h1 (by omega)).symm, ?_⟩
      exact below_drewN (Below.refl _ _) _

set_option maxHeartbeats 400000 in
theorem heapBytes_any (a0 a1 a2 a3 a : Option Addr) (l0 l1 l2 l3 c0 c1 c2 c3 len cap : Nat) (A : Nat → Option Addr) (L C : Nat → Nat) (w : World)
    (h0 : l0 ≤ 4096) (h1 : l1 ≤ 4096) (h2 : l2 ≤ 4096) (h3 : l3 ≤ 4096) (hl : len ≤ 4096) (r : RowAt w a len cap fun i => .slice (A i) (L i) (C i)) (hL : ∀ i, i < len → L i ≤ 2 ^ 63 - 1) :
    Calls Try.prog 15 #[.slice a0 l0 c0, .slice a1 l1 c1, .slice a2 l2 c2, .slice a3 l3 c3, .slice a len cap] w fun e w' => ∃ t : Int, e = .returned (.int .i64 t) ∧ 0 ≤ t ∧ t ≤ 4194304 ∧ w' = w := by
  have HL : Hid (_) := hL
  clear hL
  go_enter Try.func15, Try.ntmps15
  go_wp2
  go_loop [11, 12] (fun t x => ∃ (k : Nat) (s : Int), k ≤ len ∧ x = .int .i64 k ∧ t = .int .i64 s ∧ 0 ≤ s ∧ s ≤ 1048576) (fun _ x => len - (intOf x).toNat)
  case atStart => exact ⟨0, _, Nat.zero_le _, rfl, rfl, by omega, by omega⟩
  case round =>
    obtain ⟨k, s, hk, rfl, rfl, hs0, hs1⟩ := hrel
    by_cases hlt : k < len
    · obtain ⟨b, o, rfl, e1, p1⟩ := r.pos (by omega)
      have s1 := p1 k hlt
      have hLk := HL.out k hlt
      clear p1
      go_wp2
      · go_ret
        exact ⟨1048577, rfl, by omega, by omega, rfl⟩
      · go_ret
        exact ⟨_, rfl, by omega, by omega, rfl⟩
      · have q1 : s + (L k : Int) ≤ 1048576 := by assumption
        go_round
        case rel => exact ⟨k + 1, _, by omega, by go_num, rfl, by omega, q1⟩
        case measure => simp [intOf]; omega
    · go_wp2
      go_ret
      exact ⟨s, rfl, hs0, by omega, rfl⟩

theorem Try.info35 : (Try.prog.info? 35).map (fun i => (i.zero, i.size, i.bytes)) = some (some (.slice none 0 0), 1, 24) := by kernel_rfl

/-- A slice of payloads that came in: each row read by itself. -/
def Rows2 (w : World) (len : Nat) (A : Nat → Option Addr) (L C : Nat → Nat) (z : Nat → Nat → Int) : Prop := ∀ r, r < len → RowAt w (A r) (L r) (C r) fun c => .int .u8 (z r c)

theorem Rows2.below {w w' : World} {len : Nat} {A : Nat → Option Addr} {L C : Nat → Nat} {z : Nat → Nat → Int} (h : Rows2 w len A L C z) (hb : Below w.heap.size w w') : Rows2 w' len A L C z := fun r hr => (h r hr).below hb

theorem BlkTo.row {w : World} {e g n : Nat} {f : Nat → Value} (h : BlkTo w e g n n f) (hn : n ≤ maxLen) : RowAt w (some ⟨g, 0, none⟩) n n f := by
  refine Or.inr ⟨_, rfl, Nat.le_refl _, hn, ?_⟩
  intro i hi
  rw [show (⟨g, 0, none⟩ : Addr).add i = ⟨g, i, none⟩ from by unfold Addr.add; split <;> simp_all]
  exact h.cell hi

theorem add_block (x : Addr) (i : Nat) : (x.add i).block = x.block := by unfold Addr.add; split <;> rfl
/-- A store into another block leaves a row as it reads. -/
theorem RowAt.setCell_far {w : World} {a : Option Addr} {len cap : Nat} {f : Nat → Value} {p : Addr} {v : Value} (h : RowAt w a len cap f) (hne : ∀ x, a = some x → x.block ≠ p.block) : RowAt (w.setCell p v) a len cap f := by
  rcases h with h | ⟨x, h1, h2, h3, h4⟩
  · exact Or.inl h
  · refine Or.inr ⟨x, h1, h2, h3, ?_⟩
    intro i hi
    rw [World.cell?_of_block (w := w) (Below.heap_setCell w p v _ (by rw [add_block]; exact hne x h1))]
    exact h4 i hi
/-- A world that keeps the row's block keeps the row. -/
theorem RowAt.of_block {w w' : World} {a : Option Addr} {len cap : Nat} {f : Nat → Value} (h : RowAt w a len cap f) (hb : ∀ x, a = some x → 0 < len → w'.heap[x.block]? = w.heap[x.block]?) : RowAt w' a len cap f := by
  rcases h with h | ⟨x, h1, h2, h3, h4⟩
  · exact Or.inl h
  · refine Or.inr ⟨x, h1, h2, h3, ?_⟩
    intro i hi
    rw [World.cell?_of_block (w := w) (by rw [add_block]; exact hb x h1 (by omega))]
    exact h4 i hi
/-- One cell more of a block is written. -/
theorem BlkTo.set' {w : World} {e g n k : Nat} {f f' : Nat → Value} {v : Value} (h : BlkTo w e g n k f) (hk : k < n) (hv : f' k = v) (ho : ∀ i, i < k → f' i = f i) : BlkTo (w.setCell ⟨g, k, none⟩ v) e g n (k + 1) f' := by
  subst hv
  refine BlkTo.set (f := f') ?_ hk
  obtain ⟨cur, h1, h2, h3⟩ := h
  exact ⟨cur, h1, h2, fun i hi => by rw [ho i hi]; exact h3 i hi⟩

/-- A payload's clone reads as the payload, in a block that is new. -/
theorem clone19_pay (a : Option Addr) (len cap : Nat) (f : Nat → Int) (w : World) (hm : len ≤ 1048576) (h : RowAt w a len cap fun i => .int .u8 (f i)) :
    Calls Try.prog 19 #[.slice a len cap] w fun e w' => ∃ a' c', e = .returned (.slice a' len c') ∧ Below w.heap.size w w' ∧ (RowAt w' a' len c' fun i => .int .u8 (f i)) ∧ ∀ x, a' = some x → w.heap.size ≤ x.block := by
  by_cases hl : 0 < len
  · obtain ⟨b, off, rfl, hb, hc⟩ := h.pos hl
    refine (clone19_in b off len cap f w hm hb hc).mono ?_
    rintro e w' ⟨rfl, h1, h2⟩
    exact ⟨_, _, rfl, h1, h2.row (by unfold maxLen; omega), fun x hx => by cases hx; exact Nat.le_refl _⟩
  · have e : len = 0 := by omega
    subst e
    rcases h with ⟨rfl, _, rfl⟩ | ⟨x, rfl, _⟩
    · refine (clone19_nil w).mono ?_
      rintro e w' ⟨rfl, rfl⟩
      exact ⟨_, _, rfl, Below.refl _ _, Or.inl ⟨rfl, rfl, rfl⟩, fun x hx => by cases hx⟩
    · refine (clone19_empty x cap w).mono ?_
      rintro e w' ⟨rfl, h1⟩
      exact ⟨_, _, rfl, h1, Or.inr ⟨_, rfl, Nat.le_refl _, Nat.zero_le _, fun i hi => by omega⟩, fun x hx => by cases hx; exact Nat.le_refl _⟩

/-- The first k clones of the payloads. -/
def Pays (w : World) (g len k : Nat) (L : Nat → Nat) (z : Nat → Nat → Int) (A : Nat → Option Addr) (C : Nat → Nat) : Prop :=
  BlkTo w 35 g len k (fun i => .slice (A i) (L i) (C i)) ∧ ∀ r, r < k → (RowAt w (A r) (L r) (C r) fun c => .int .u8 (z r c)) ∧ ∀ x, A r = some x → g < x.block

set_option maxHeartbeats 400000 in
theorem cloneAll_in (b off len cap : Nat) (A : Nat → Option Addr) (L C : Nat → Nat) (z : Nat → Nat → Int) (w : World) (hm : len ≤ 4096) (hb : b < w.heap.size) (hc : ∀ i, i < len → w.cell? ⟨b, off + i, none⟩ = some (.slice (A i) (L i) (C i)))
    (hr : Rows2 w len A L C z) (hL : ∀ i, i < len → L i ≤ 1048576) :
    Calls Try.prog 18 #[.slice (some ⟨b, off, none⟩) len cap] w fun e w' => e = .returned (.slice (some ⟨w.heap.size, 0, none⟩) len len) ∧ Below w.heap.size w w' ∧ ∃ A' C', Pays w' w.heap.size len len L z A' C' := by
  have qn : ∀ (w : World) (a : Option Addr) (n c n' c' : Nat), (binOp .eql 34 (.slice a n c) (.slice none n' c')).run Try.prog w = .ok (.bool a.isNone) w := fun w a n c n' c' => Lib.run_eql_slice_nil w _ _ a n c n' c' Try.underlying34
  obtain ⟨i, hi, hz0, hz1, hz2⟩ := info_parts Try.info35
  have HC : Hid (_) := hc
  have HL : Hid (_) := hL
  clear hc hL
  go_enter Try.func18, Try.ntmps18
  go_wp2_with (at_make; refine wpList_make_full _ rfl _ _ 34 rfl w.heap.size 35 i _ 1 Try.underlying34 hi hz0 hz1 _ _ _ _ len rfl rfl rfl rfl (by rw [hz2]; omega) (by unfold maxLen; omega) (Nat.le_refl _) ?_)
  intro w1 hown hgrow
  have h0 : BlkTo w1 35 w.heap.size len 0 (fun _ => .slice none 0 0) := BlkTo.of_own hown
  have hb0 : Below w.heap.size w w1 := (Below.refl _ _).grown hgrow (Nat.le_refl _) (fun k hk => by cases hk)
  clear hown hgrow
  go_wp2
  go_loopw [4] (fun x wr => ∃ (k : Nat) (A' : Nat → Option Addr) (C' : Nat → Nat), k ≤ len ∧ x = .int .i64 k ∧ Hid (Below w.heap.size w wr ∧ Pays wr w.heap.size len k L z A' C')) (fun x _ => len - (intOf x).toNat)
  case atStart => exact ⟨0, fun _ => none, fun _ => 0, Nat.zero_le _, rfl, hb0, (by obtain ⟨cur, x1, x2, _⟩ := h0; exact ⟨cur, x1, x2, fun i hi => by omega⟩), fun r hr => by omega⟩
  case round =>
    obtain ⟨k, A', C', hk, rfl, HR⟩ := hrel
    by_cases hlt : k < len
    · have c1 : wr.cell? ⟨b, off + k, none⟩ = some (.slice (A k) (L k) (C k)) := by rw [HR.out.1.cell hb]; exact HC.out k hlt
      have hLk := HL.out k hlt
      go_wp2_with fail
      refine (clone19_pay _ _ _ (z k) wr hLk ((hr k hlt).below HR.out.1)).mono ?_
      rintro e w2 ⟨a', c', rfl, hb2, hr2, hnew⟩
      have bg := HR.out.2.1.lt
      have y1 := HR.out.2.1.below hb2 bg
      obtain ⟨u, c2⟩ := y1.there hlt
      have c3 : w2.frozen? ⟨w.heap.size, k, none⟩ = false := y1.frozen
      go_wp2
      go_roundw
      case rel =>
        refine ⟨k + 1, fun i => if i = k then a' else A' i, fun i => if i = k then c' else C' i, by omega, by go_num, ?_⟩
        refine ⟨(HR.out.1.trans (hb2.mono HR.out.1.size)).setCell (Nat.le_refl _) _, ?_, ?_⟩
        · refine BlkTo.set' y1 hlt (by simp) ?_
          intro i hi
          simp [show i ≠ k from by omega]
        · intro r hr3
          by_cases e : r = k
          · subst e
            simp only [if_true]
            exact ⟨hr2.setCell_far (fun x hx => by have := hnew x hx; show x.block ≠ w.heap.size; omega), fun x hx => by have := hnew x hx; omega⟩
          · simp only [if_neg e]
            obtain ⟨y2, y3⟩ := HR.out.2.2 r (by omega)
            exact ⟨(y2.below hb2).setCell_far (fun x hx => by have := y3 x hx; show x.block ≠ w.heap.size; omega), y3⟩
      case measure => simp [intOf]; omega
    · go_wp2
      go_ret
      have e : k = len := by omega
      subst e
      exact ⟨rfl, HR.out.1, A', C', HR.out.2⟩

set_option maxHeartbeats 400000 in
theorem cloneAll_empty (x : Addr) (cap : Nat) (w : World) :
    Calls Try.prog 18 #[.slice (some x) 0 cap] w fun e w' => e = .returned (.slice (some ⟨w.heap.size, 0, none⟩) 0 0) ∧ Below w.heap.size w w' := by
  have qn : ∀ (w : World) (a : Option Addr) (n c n' c' : Nat), (binOp .eql 34 (.slice a n c) (.slice none n' c')).run Try.prog w = .ok (.bool a.isNone) w := fun w a n c n' c' => Lib.run_eql_slice_nil w _ _ a n c n' c' Try.underlying34
  obtain ⟨i, hi, hz0, hz1, hz2⟩ := info_parts Try.info35
  go_enter Try.func18, Try.ntmps18
  go_wp2_with (at_make; refine wpList_make_full _ rfl _ _ 34 rfl w.heap.size 35 i _ 1 Try.underlying34 hi hz0 hz1 _ _ _ _ 0 rfl rfl rfl rfl (by rw [hz2]; omega) (by unfold maxLen; omega) (Nat.le_refl _) ?_)
  intro w1 hown hgrow
  have hb0 : Below w.heap.size w w1 := (Below.refl _ _).grown hgrow (Nat.le_refl _) (fun k hk => by cases hk)
  clear hown hgrow
  go_wp2
  go_loop [4] (fun x => x = .int .i64 0) (fun _ => 0)
  case atStart => rfl
  case round =>
    subst hrel
    go_wp2
    go_ret
    exact ⟨rfl, hb0⟩

set_option maxHeartbeats 400000 in
theorem cloneAll_nil (w : World) :
    Calls Try.prog 18 #[.slice none 0 0] w fun e w' => e = .returned (.slice none 0 0) ∧ w' = w := by
  have qn : ∀ (w : World) (a : Option Addr) (n c n' c' : Nat), (binOp .eql 34 (.slice a n c) (.slice none n' c')).run Try.prog w = .ok (.bool a.isNone) w := fun w a n c n' c' => Lib.run_eql_slice_nil w _ _ a n c n' c' Try.underlying34
  go_enter Try.func18, Try.ntmps18
  go_wp2
  go_ret
  exact ⟨rfl, rfl⟩

theorem cloneAll_any (a : Option Addr) (len cap : Nat) (A : Nat → Option Addr) (L C : Nat → Nat) (z : Nat → Nat → Int) (w : World) (hm : len ≤ 4096) (h : RowAt w a len cap fun i => .slice (A i) (L i) (C i))
    (hr : Rows2 w len A L C z) (hL : ∀ i, i < len → L i ≤ 1048576) :
    Calls Try.prog 18 #[.slice a len cap] w fun e w' => ∃ a' c', e = .returned (.slice a' len c') ∧ Below w.heap.size w w' ∧ (0 < len → ∃ g A' C', a' = some ⟨g, 0, none⟩ ∧ c' = len ∧ w.heap.size ≤ g ∧ Pays w' g len len L z A' C') := by
  by_cases hl : 0 < len
  · obtain ⟨b, off, rfl, hb, hc⟩ := h.pos hl
    refine (cloneAll_in b off len cap A L C z w hm hb hc hr hL).mono ?_
    rintro e w' ⟨rfl, h1, A', C', h2⟩
    exact ⟨_, _, rfl, h1, fun _ => ⟨_, A', C', rfl, rfl, Nat.le_refl _, h2⟩⟩
  · have e : len = 0 := by omega
    subst e
    rcases h with ⟨rfl, _, rfl⟩ | ⟨x, rfl, _⟩
    · refine (cloneAll_nil w).mono ?_
      rintro e w' ⟨rfl, rfl⟩
      exact ⟨_, _, rfl, Below.refl _ _, fun h => by omega⟩
    · refine (cloneAll_empty x cap w).mono ?_
      rintro e w' ⟨rfl, h1⟩
      exact ⟨_, _, rfl, h1, fun h => by omega⟩

end Go.Proofs.Qxb6605570a
