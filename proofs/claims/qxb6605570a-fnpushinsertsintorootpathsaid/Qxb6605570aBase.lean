import Derived.Test.Qxb6605570aRows
import Derived.WalkKit
import Derived.WalkSpells
import Derived.WalkLawsBesides
namespace Go.Proofs.Qxb6605570a
open Go.RowKit

theorem Try.info2 : (Try.prog.info? 2).map (fun i => (i.zero, i.size, i.bytes)) = some (some (.int .i64 0), 1, 8) := by kernel_rfl
theorem Try.info3 : (Try.prog.info? 3).map (fun i => (i.zero, i.size, i.bytes)) = some (some (.int .i64 0), 1, 8) := by kernel_rfl
theorem Try.info4 : (Try.prog.info? 4).map (fun i => (i.zero, i.size, i.bytes)) = some (some (.bool false), 1, 1) := by kernel_rfl
theorem Try.info5 : (Try.prog.info? 5).map (fun i => (i.zero, i.size, i.bytes)) = some (some (.int .u8 0), 1, 1) := by kernel_rfl
theorem Try.info32 : (Try.prog.info? 32).map (fun i => (i.zero, i.size, i.bytes)) = some (some (.int .u32 0), 1, 4) := by kernel_rfl

theorem ret_bool {a b : Bool} (h : a = b) : Ending.returned (.bool a) = .returned (.bool b) := by rw [h]
theorem ret_int {k : IntKind} {a b : Int} (h : a = b) : Ending.returned (.int k a) = .returned (.int k b) := by rw [h]

/-- Block g holds n cells of type e, the first k of them as f says. -/
def BlkTo (w : World) (e : TypeId) (g n k : Nat) (f : Nat → Value) : Prop :=
  ∃ cur : Array Value, w.heap[g]? = some (.cells cur e (0, 0)) ∧ cur.size = n ∧ ∀ i, i < k → cur[i]? = some (f i)

theorem BlkTo.cell {w : World} {e g n k : Nat} {f : Nat → Value} (h : BlkTo w e g n k f) {i : Nat} (hi : i < k) : w.cell? ⟨g, i, none⟩ = some (f i) := by
  obtain ⟨cur, h1, h2, h3⟩ := h
  rw [cell_of_row w g i cur e (0, 0) h1]; exact h3 i hi
theorem BlkTo.there {w : World} {e g n k : Nat} {f : Nat → Value} (h : BlkTo w e g n k f) {i : Nat} (hi : i < n) : ∃ u, w.cell? ⟨g, i, none⟩ = some u := by
  obtain ⟨cur, h1, h2, h3⟩ := h
  rw [cell_of_row w g i cur e (0, 0) h1]
  exact ⟨cur[i]'(by omega), Array.getElem?_eq_getElem _⟩
theorem BlkTo.frozen {w : World} {e g n k : Nat} {f : Nat → Value} (h : BlkTo w e g n k f) {i : Nat} : w.frozen? ⟨g, i, none⟩ = false := by
  obtain ⟨cur, h1, h2, h3⟩ := h
  simp [World.frozen?, h1]
theorem BlkTo.set {w : World} {e g n k : Nat} {f : Nat → Value} (h : BlkTo w e g n k f) (hk : k < n) : BlkTo (w.setCell ⟨g, k, none⟩ (f k)) e g n (k + 1) f := by
  obtain ⟨cur, h1, h2, h3⟩ := h
  refine ⟨cur.setIfInBounds k (f k), ?_, by simpa using h2, ?_⟩
  · simp only [World.setCell, Array.getElem?_modify]
    rw [if_pos trivial, h1]; rfl
  · intro i hi
    rw [Array.getElem?_setIfInBounds]
    by_cases e : k = i
    · subst e; rw [if_pos rfl, if_pos (by omega)]
    · rw [if_neg e]; exact h3 i (by omega)
/-- One cell of a whole block is written. -/
theorem BlkTo.put {w : World} {e g n : Nat} {f f' : Nat → Value} (h : BlkTo w e g n n f) (k : Nat) (v : Value) (hk : f' k = v) (ho : ∀ i, i < n → i ≠ k → f' i = f i) : BlkTo (w.setCell ⟨g, k, none⟩ v) e g n n f' := by
  obtain ⟨cur, h1, h2, h3⟩ := h
  refine ⟨cur.setIfInBounds k v, ?_, by simpa using h2, ?_⟩
  · simp only [World.setCell, Array.getElem?_modify]
    rw [if_pos trivial, h1]; rfl
  · intro i hi
    rw [Array.getElem?_setIfInBounds]
    by_cases e : k = i
    · subst e; rw [if_pos rfl, if_pos (by omega), hk]
    · rw [if_neg e, h3 i hi, ho i hi (fun h => e h.symm)]
theorem BlkTo.lt {w : World} {e g n k : Nat} {f : Nat → Value} (h : BlkTo w e g n k f) : g < w.heap.size := by
  obtain ⟨cur, h1, h2, h3⟩ := h
  exact (Array.getElem?_eq_some_iff.1 h1).1
theorem BlkTo.of_block {w w' : World} {e g n k : Nat} {f : Nat → Value} (h : BlkTo w e g n k f) (hb : w'.heap[g]? = w.heap[g]?) : BlkTo w' e g n k f := by
  obtain ⟨cur, h1, h2, h3⟩ := h
  exact ⟨cur, by rw [hb]; exact h1, h2, h3⟩
theorem BlkTo.below {w w' : World} {B e g n k : Nat} {f : Nat → Value} (h : BlkTo w e g n k f) (hb : Below B w w') (hg : g < B) : BlkTo w' e g n k f :=
  h.of_block (hb.block g hg)
theorem BlkTo.of_own {w : World} {base e g n : Nat} {xs : List Value} {f : Nat → Value} (h : w.ownsRow base e 1 (.slice (some ⟨g, 0, none⟩) n n) n xs) : BlkTo w e g n 0 f := by
  rcases h.2 with ⟨h1, _⟩ | ⟨g', cap, cur, h1, _, h2, _, _, h3, _⟩
  · cases h1
  · cases h1
    exact ⟨cur, h2, by omega, fun i hi => by omega⟩

/-- A slice that came in, its elements by a function: nil, or a row of cells. -/
def RowAt (w : World) (a : Option Addr) (len cap : Nat) (f : Nat → Value) : Prop :=
  (a = none ∧ len = 0 ∧ cap = 0) ∨ ∃ x, a = some x ∧ len ≤ cap ∧ cap ≤ maxLen ∧ ∀ i, i < len → w.cell? (x.add i) = some (f i)

/-- A slice of the call's own, from block B on: empty, or its own whole block. -/
def OwnS (w : World) (B : Nat) (e : TypeId) (v : Value) (n : Nat) (f : Nat → Value) : Prop :=
  (n = 0 ∧ ∃ a c, v = .slice a 0 c) ∨ ∃ g, v = .slice (some ⟨g, 0, none⟩) n n ∧ B ≤ g ∧ BlkTo w e g n n f

theorem RowAt.below {w w' : World} {a : Option Addr} {len cap : Nat} {f : Nat → Value} (h : RowAt w a len cap f) (hb : Below w.heap.size w w') : RowAt w' a len cap f := by
  rcases h with h | ⟨x, h1, h2, h3, h4⟩
  · exact Or.inl h
  · refine Or.inr ⟨x, h1, h2, h3, ?_⟩
    intro i hi
    have := h4 i hi
    rw [hb.cell (World.block_lt_of_cell? w _ this)]; exact this
theorem OwnS.below {w w' : World} {B B' : Nat} {e : TypeId} {v : Value} {n : Nat} {f : Nat → Value} (h : OwnS w B e v n f) (hb : Below B' w w') (hB : w.heap.size ≤ B') : OwnS w' B e v n f := by
  rcases h with h | ⟨g, h1, h2, h3⟩
  · exact Or.inl h
  · exact Or.inr ⟨g, h1, h2, h3.below hb (by have := h3.lt; omega)⟩
/-- At least one element: the address is plain. -/
theorem RowAt.pos {w : World} {a : Option Addr} {len cap : Nat} {f : Nat → Value} (h : RowAt w a len cap f) (hl : 0 < len) :
    ∃ b off, a = some ⟨b, off, none⟩ ∧ b < w.heap.size ∧ ∀ i, i < len → w.cell? ⟨b, off + i, none⟩ = some (f i) := by
  rcases h with ⟨_, h, _⟩ | ⟨⟨b, off, spot⟩, rfl, _, _, hc⟩
  · omega
  · have h0 := hc 0 hl
    have hspot : spot = none := by simpa [Addr.add] using World.cell?_spot h0
    subst hspot
    refine ⟨b, off, rfl, World.block_lt_of_cell? w _ h0, ?_⟩
    intro i hi
    have := hc i hi
    have e : (⟨b, off, none⟩ : Addr).add i = ⟨b, off + i, none⟩ := by unfold Addr.add; split <;> simp_all
    rwa [e] at this
theorem OwnS.pos {w : World} {B : Nat} {e : TypeId} {v : Value} {n : Nat} {f : Nat → Value} (h : OwnS w B e v n f) (hn : 0 < n) : ∃ g, v = .slice (some ⟨g, 0, none⟩) n n ∧ B ≤ g ∧ BlkTo w e g n n f := by
  rcases h with ⟨h, _⟩ | h
  · omega
  · exact h
theorem RowAt.form {w : World} {a : Option Addr} {len cap : Nat} {f : Nat → Value} (h : RowAt w a len cap f) : len ≤ 2 ^ 63 - 1 := by
  rcases h with ⟨_, h, _⟩ | ⟨_, _, h1, h2, _⟩
  · omega
  · unfold maxLen at h2; omega

set_option maxHeartbeats 400000 in
theorem clone9_in (b off len cap : Nat) (f : Nat → Int) (w : World) (hm : len ≤ 1048576) (hb : b < w.heap.size) (hc : ∀ i, i < len → w.cell? ⟨b, off + i, none⟩ = some (.int .i64 (f i))) :
    Calls Try.prog 9 #[.slice (some ⟨b, off, none⟩) len cap] w fun e w' => e = .returned (.slice (some ⟨w.heap.size, 0, none⟩) len len) ∧ Below w.heap.size w w' ∧ BlkTo w' 2 w.heap.size len len (fun i => .int .i64 (f i)) := by
  have qn : ∀ (w : World) (a : Option Addr) (n c n' c' : Nat), (binOp .eql 22 (.slice a n c) (.slice none n' c')).run Try.prog w = .ok (.bool a.isNone) w := fun w a n c n' c' => Lib.run_eql_slice_nil w _ _ a n c n' c' Try.underlying22
  obtain ⟨i, hi, hz0, hz1, hz2⟩ := info_parts Try.info2
  have HC : Hid (_) := hc
  clear hc
  go_enter Try.func9, Try.ntmps9
  go_wp2_with (at_make; refine wpList_make_full _ rfl _ _ 22 rfl w.heap.size 2 i _ 1 Try.underlying22 hi hz0 hz1 _ _ _ _ len rfl rfl rfl rfl (by rw [hz2]; omega) (by unfold maxLen; omega) (Nat.le_refl _) ?_)
  intro w1 hown hgrow
  have h0 : BlkTo w1 2 w.heap.size len 0 (fun i => .int .i64 (f i)) := BlkTo.of_own hown
  have hb0 : Below w.heap.size w w1 := (Below.refl _ _).grown hgrow (Nat.le_refl _) (fun k hk => by cases hk)
  clear hown hgrow
  go_wp2
  go_loopw [4] (fun x wr => ∃ k : Nat, k ≤ len ∧ x = .int .i64 k ∧ Hid (Below w.heap.size w wr ∧ BlkTo wr 2 w.heap.size len k (fun i => .int .i64 (f i)))) (fun x _ => len - (intOf x).toNat)
  case atStart => exact ⟨0, Nat.zero_le _, rfl, hb0, h0⟩
  case round =>
    obtain ⟨k, hk, rfl, HR⟩ := hrel
    by_cases hlt : k < len
    · have c1 : wr.cell? ⟨b, off + k, none⟩ = some (.int .i64 (f k)) := by rw [HR.out.1.cell hb]; exact HC.out k hlt
      obtain ⟨u, c2⟩ := HR.out.2.there hlt
      have c3 : wr.frozen? ⟨w.heap.size, k, none⟩ = false := HR.out.2.frozen
      go_wp2
      go_roundw
      case rel =>
        exact ⟨k + 1, by omega, by go_num, HR.out.1.setCell (Nat.le_refl _) _, HR.out.2.set hlt⟩
      case measure => simp [intOf]; omega
    · go_wp2
      go_ret
      have e : k = len := by omega
      subst e
      exact ⟨rfl, HR.out.1, HR.out.2⟩

set_option maxHeartbeats 400000 in
theorem clone9_empty (x : Addr) (cap : Nat) (w : World) :
    Calls Try.prog 9 #[.slice (some x) 0 cap] w fun e w' => e = .returned (.slice (some ⟨w.heap.size, 0, none⟩) 0 0) ∧ Below w.heap.size w w' := by
  have qn : ∀ (w : World) (a : Option Addr) (n c n' c' : Nat), (binOp .eql 22 (.slice a n c) (.slice none n' c')).run Try.prog w = .ok (.bool a.isNone) w := fun w a n c n' c' => Lib.run_eql_slice_nil w _ _ a n c n' c' Try.underlying22
  obtain ⟨i, hi, hz0, hz1, hz2⟩ := info_parts Try.info2
  go_enter Try.func9, Try.ntmps9
  go_wp2_with (at_make; refine wpList_make_full _ rfl _ _ 22 rfl w.heap.size 2 i _ 1 Try.underlying22 hi hz0 hz1 _ _ _ _ 0 rfl rfl rfl rfl (by rw [hz2]; omega) (by unfold maxLen; omega) (Nat.le_refl _) ?_)
  intro w1 hown hgrow
  have hb0 : Below w.heap.size w w1 := (Below.refl _ _).grown hgrow (Nat.le_refl _) (fun k hk => by cases hk)
  clear hown hgrow
  go_wp2
  go_loop [4] (fun x => x = .int .i64 0) (fun _ => 0)
  case atStart => rfl
  case round =>
    subst hrel
    go_wp2
    go_ret
    exact ⟨rfl, hb0⟩

set_option maxHeartbeats 400000 in
theorem clone9_nil (w : World) :
    Calls Try.prog 9 #[.slice none 0 0] w fun e w' => e = .returned (.slice none 0 0) ∧ w' = w := by
  have qn : ∀ (w : World) (a : Option Addr) (n c n' c' : Nat), (binOp .eql 22 (.slice a n c) (.slice none n' c')).run Try.prog w = .ok (.bool a.isNone) w := fun w a n c n' c' => Lib.run_eql_slice_nil w _ _ a n c n' c' Try.underlying22
  go_enter Try.func9, Try.ntmps9
  go_wp2
  go_ret
  exact ⟨rfl, rfl⟩

theorem clone9_any (a : Option Addr) (len cap : Nat) (f : Nat → Int) (w : World) (hm : len ≤ 1048576) (h : RowAt w a len cap (fun i => .int .i64 (f i))) :
    Calls Try.prog 9 #[.slice a len cap] w fun e w' => ∃ v, e = .returned v ∧ Below w.heap.size w w' ∧ OwnS w' w.heap.size 2 v len (fun i => .int .i64 (f i)) := by
  by_cases hl : 0 < len
  · obtain ⟨b, off, rfl, hb, hc⟩ := h.pos hl
    refine (clone9_in b off len cap f w hm hb hc).mono ?_
    rintro e w' ⟨rfl, h1, h2⟩
    exact ⟨_, rfl, h1, Or.inr ⟨_, rfl, Nat.le_refl _, h2⟩⟩
  · have e : len = 0 := by omega
    subst e
    rcases h with ⟨rfl, _, rfl⟩ | ⟨x, rfl, _⟩
    · refine (clone9_nil w).mono ?_
      rintro e w' ⟨rfl, rfl⟩
      exact ⟨_, rfl, Below.refl _ _, Or.inl ⟨rfl, _, _, rfl⟩⟩
    · refine (clone9_empty x cap w).mono ?_
      rintro e w' ⟨rfl, h1⟩
      exact ⟨_, rfl, h1, Or.inl ⟨rfl, _, _, rfl⟩⟩

set_option maxHeartbeats 400000 in
theorem clone10_in (b off len cap : Nat) (f : Nat → Int) (w : World) (hm : len ≤ 1048576) (hb : b < w.heap.size) (hc : ∀ i, i < len → w.cell? ⟨b, off + i, none⟩ = some (.int .u32 (f i))) :
    Calls Try.prog 10 #[.slice (some ⟨b, off, none⟩) len cap] w fun e w' => e = .returned (.slice (some ⟨w.heap.size, 0, none⟩) len len) ∧ Below w.heap.size w w' ∧ BlkTo w' 32 w.heap.size len len (fun i => .int .u32 (f i)) := by
  have qn : ∀ (w : World) (a : Option Addr) (n c n' c' : Nat), (binOp .eql 23 (.slice a n c) (.slice none n' c')).run Try.prog w = .ok (.bool a.isNone) w := fun w a n c n' c' => Lib.run_eql_slice_nil w _ _ a n c n' c' Try.underlying23
  obtain ⟨i, hi, hz0, hz1, hz2⟩ := info_parts Try.info32
  have HC : Hid (_) := hc
  clear hc
  go_enter Try.func10, Try.ntmps10
  go_wp2_with (at_make; refine wpList_make_full _ rfl _ _ 23 rfl w.heap.size 32 i _ 1 Try.underlying23 hi hz0 hz1 _ _ _ _ len rfl rfl rfl rfl (by rw [hz2]; omega) (by unfold maxLen; omega) (Nat.le_refl _) ?_)
  intro w1 hown hgrow
  have h0 : BlkTo w1 32 w.heap.size len 0 (fun i => .int .u32 (f i)) := BlkTo.of_own hown
  have hb0 : Below w.heap.size w w1 := (Below.refl _ _).grown hgrow (Nat.le_refl _) (fun k hk => by cases hk)
  clear hown hgrow
  go_wp2
  go_loopw [4] (fun x wr => ∃ k : Nat, k ≤ len ∧ x = .int .i64 k ∧ Hid (Below w.heap.size w wr ∧ BlkTo wr 32 w.heap.size len k (fun i => .int .u32 (f i)))) (fun x _ => len - (intOf x).toNat)
  case atStart => exact ⟨0, Nat.zero_le _, rfl, hb0, h0⟩
  case round =>
    obtain ⟨k, hk, rfl, HR⟩ := hrel
    by_cases hlt : k < len
    · have c1 : wr.cell? ⟨b, off + k, none⟩ = some (.int .u32 (f k)) := by rw [HR.out.1.cell hb]; exact HC.out k hlt
      obtain ⟨u, c2⟩ := HR.out.2.there hlt
      have c3 : wr.frozen? ⟨w.heap.size, k, none⟩ = false := HR.out.2.frozen
      go_wp2
      go_roundw
      case rel =>
        exact ⟨k + 1, by omega, by go_num, HR.out.1.setCell (Nat.le_refl _) _, HR.out.2.set hlt⟩
      case measure => simp [intOf]; omega
    · go_wp2
      go_ret
      have e : k = len := by omega
      subst e
      exact ⟨rfl, HR.out.1, HR.out.2⟩

set_option maxHeartbeats 400000 in
theorem clone10_empty (x : Addr) (cap : Nat) (w : World) :
    Calls Try.prog 10 #[.slice (some x) 0 cap] w fun e w' => e = .returned (.slice (some ⟨w.heap.size, 0, none⟩) 0 0) ∧ Below w.heap.size w w' := by
  have qn : ∀ (w : World) (a : Option Addr) (n c n' c' : Nat), (binOp .eql 23 (.slice a n c) (.slice none n' c')).run Try.prog w = .ok (.bool a.isNone) w := fun w a n c n' c' => Lib.run_eql_slice_nil w _ _ a n c n' c' Try.underlying23
  obtain ⟨i, hi, hz0, hz1, hz2⟩ := info_parts Try.info32
  go_enter Try.func10, Try.ntmps10
  go_wp2_with (at_make; refine wpList_make_full _ rfl _ _ 23 rfl w.heap.size 32 i _ 1 Try.underlying23 hi hz0 hz1 _ _ _ _ 0 rfl rfl rfl rfl (by rw [hz2]; omega) (by unfold maxLen; omega) (Nat.le_refl _) ?_)
  intro w1 hown hgrow
  have hb0 : Below w.heap.size w w1 := (Below.refl _ _).grown hgrow (Nat.le_refl _) (fun k hk => by cases hk)
  clear hown hgrow
  go_wp2
  go_loop [4] (fun x => x = .int .i64 0) (fun _ => 0)
  case atStart => rfl
  case round =>
    subst hrel
    go_wp2
    go_ret
    exact ⟨rfl, hb0⟩

set_option maxHeartbeats 400000 in
theorem clone10_nil (w : World) :
    Calls Try.prog 10 #[.slice none 0 0] w fun e w' => e = .returned (.slice none 0 0) ∧ w' = w := by
  have qn : ∀ (w : World) (a : Option Addr) (n c n' c' : Nat), (binOp .eql 23 (.slice a n c) (.slice none n' c')).run Try.prog w = .ok (.bool a.isNone) w := fun w a n c n' c' => Lib.run_eql_slice_nil w _ _ a n c n' c' Try.underlying23
  go_enter Try.func10, Try.ntmps10
  go_wp2
  go_ret
  exact ⟨rfl, rfl⟩

theorem clone10_any (a : Option Addr) (len cap : Nat) (f : Nat → Int) (w : World) (hm : len ≤ 1048576) (h : RowAt w a len cap (fun i => .int .u32 (f i))) :
    Calls Try.prog 10 #[.slice a len cap] w fun e w' => ∃ v, e = .returned v ∧ Below w.heap.size w w' ∧ OwnS w' w.heap.size 32 v len (fun i => .int .u32 (f i)) := by
  by_cases hl : 0 < len
  · obtain ⟨b, off, rfl, hb, hc⟩ := h.pos hl
    refine (clone10_in b off len cap f w hm hb hc).mono ?_
    rintro e w' ⟨rfl, h1, h2⟩
    exact ⟨_, rfl, h1, Or.inr ⟨_, rfl, Nat.le_refl _, h2⟩⟩
  · have e : len = 0 := by omega
    subst e
    rcases h with ⟨rfl, _, rfl⟩ | ⟨x, rfl, _⟩
    · refine (clone10_nil w).mono ?_
      rintro e w' ⟨rfl, rfl⟩
      exact ⟨_, rfl, Below.refl _ _, Or.inl ⟨rfl, _, _, rfl⟩⟩
    · refine (clone10_empty x cap w).mono ?_
      rintro e w' ⟨rfl, h1⟩
      exact ⟨_, rfl, h1, Or.inl ⟨rfl, _, _, rfl⟩⟩

set_option maxHeartbeats 400000 in
theorem clone11_in (b off len cap : Nat) (f : Nat → Bool) (w : World) (hm : len ≤ 1048576) (hb : b < w.heap.size) (hc : ∀ i, i < len → w.cell? ⟨b, off + i, none⟩ = some (.bool (f i))) :
    Calls Try.prog 11 #[.slice (some ⟨b, off, none⟩) len cap] w fun e w' => e = .returned (.slice (some ⟨w.heap.size, 0, none⟩) len len) ∧ Below w.heap.size w w' ∧ BlkTo w' 4 w.heap.size len len (fun i => .bool (f i)) := by
  have qn : ∀ (w : World) (a : Option Addr) (n c n' c' : Nat), (binOp .eql 24 (.slice a n c) (.slice none n' c')).run Try.prog w = .ok (.bool a.isNone) w := fun w a n c n' c' => Lib.run_eql_slice_nil w _ _ a n c n' c' Try.underlying24
  obtain ⟨i, hi, hz0, hz1, hz2⟩ := info_parts Try.info4
  have HC : Hid (_) := hc
  clear hc
  go_enter Try.func11, Try.ntmps11
  go_wp2_with (at_make; refine wpList_make_full _ rfl _ _ 24 rfl w.heap.size 4 i _ 1 Try.underlying24 hi hz0 hz1 _ _ _ _ len rfl rfl rfl rfl (by rw [hz2]; omega) (by unfold maxLen; omega) (Nat.le_refl _) ?_)
  intro w1 hown hgrow
  have h0 : BlkTo w1 4 w.heap.size len 0 (fun i => .bool (f i)) := BlkTo.of_own hown
  have hb0 : Below w.heap.size w w1 := (Below.refl _ _).grown hgrow (Nat.le_refl _) (fun k hk => by cases hk)
  clear hown hgrow
  go_wp2
  go_loopw [4] (fun x wr => ∃ k : Nat, k ≤ len ∧ x = .int .i64 k ∧ Hid (Below w.heap.size w wr ∧ BlkTo wr 4 w.heap.size len k (fun i => .bool (f i)))) (fun x _ => len - (intOf x).toNat)
  case atStart => exact ⟨0, Nat.zero_le _, rfl, hb0, h0⟩
  case round =>
    obtain ⟨k, hk, rfl, HR⟩ := hrel
    by_cases hlt : k < len
    · have c1 : wr.cell? ⟨b, off + k, none⟩ = some (.bool (f k)) := by rw [HR.out.1.cell hb]; exact HC.out k hlt
      obtain ⟨u, c2⟩ := HR.out.2.there hlt
      have c3 : wr.frozen? ⟨w.heap.size, k, none⟩ = false := HR.out.2.frozen
      go_wp2
      go_roundw
      case rel =>
        exact ⟨k + 1, by omega, by go_num, HR.out.1.setCell (Nat.le_refl _) _, HR.out.2.set hlt⟩
      case measure => simp [intOf]; omega
    · go_wp2
      go_ret
      have e : k = len := by omega
      subst e
      exact ⟨rfl, HR.out.1, HR.out.2⟩

set_option maxHeartbeats 400000 in
theorem clone11_empty (x : Addr) (cap : Nat) (w : World) :
    Calls Try.prog 11 #[.slice (some x) 0 cap] w fun e w' => e = .returned (.slice (some ⟨w.heap.size, 0, none⟩) 0 0) ∧ Below w.heap.size w w' := by
  have qn : ∀ (w : World) (a : Option Addr) (n c n' c' : Nat), (binOp .eql 24 (.slice a n c) (.slice none n' c')).run Try.prog w = .ok (.bool a.isNone) w := fun w a n c n' c' => Lib.run_eql_slice_nil w _ _ a n c n' c' Try.underlying24
  obtain ⟨i, hi, hz0, hz1, hz2⟩ := info_parts Try.info4
  go_enter Try.func11, Try.ntmps11
  go_wp2_with (at_make; refine wpList_make_full _ rfl _ _ 24 rfl w.heap.size 4 i _ 1 Try.underlying24 hi hz0 hz1 _ _ _ _ 0 rfl rfl rfl rfl (by rw [hz2]; omega) (by unfold maxLen; omega) (Nat.le_refl _) ?_)
  intro w1 hown hgrow
  have hb0 : Below w.heap.size w w1 := (Below.refl _ _).grown hgrow (Nat.le_refl _) (fun k hk => by cases hk)
  clear hown hgrow
  go_wp2
  go_loop [4] (fun x => x = .int .i64 0) (fun _ => 0)
  case atStart => rfl
  case round =>
    subst hrel
    go_wp2
    go_ret
    exact ⟨rfl, hb0⟩

set_option maxHeartbeats 400000 in
theorem clone11_nil (w : World) :
    Calls Try.prog 11 #[.slice none 0 0] w fun e w' => e = .returned (.slice none 0 0) ∧ w' = w := by
  have qn : ∀ (w : World) (a : Option Addr) (n c n' c' : Nat), (binOp .eql 24 (.slice a n c) (.slice none n' c')).run Try.prog w = .ok (.bool a.isNone) w := fun w a n c n' c' => Lib.run_eql_slice_nil w _ _ a n c n' c' Try.underlying24
  go_enter Try.func11, Try.ntmps11
  go_wp2
  go_ret
  exact ⟨rfl, rfl⟩

theorem clone11_any (a : Option Addr) (len cap : Nat) (f : Nat → Bool) (w : World) (hm : len ≤ 1048576) (h : RowAt w a len cap (fun i => .bool (f i))) :
    Calls Try.prog 11 #[.slice a len cap] w fun e w' => ∃ v, e = .returned v ∧ Below w.heap.size w w' ∧ OwnS w' w.heap.size 4 v len (fun i => .bool (f i)) := by
  by_cases hl : 0 < len
  · obtain ⟨b, off, rfl, hb, hc⟩ := h.pos hl
    refine (clone11_in b off len cap f w hm hb hc).mono ?_
    rintro e w' ⟨rfl, h1, h2⟩
    exact ⟨_, rfl, h1, Or.inr ⟨_, rfl, Nat.le_refl _, h2⟩⟩
  · have e : len = 0 := by omega
    subst e
    rcases h with ⟨rfl, _, rfl⟩ | ⟨x, rfl, _⟩
    · refine (clone11_nil w).mono ?_
      rintro e w' ⟨rfl, rfl⟩
      exact ⟨_, rfl, Below.refl _ _, Or.inl ⟨rfl, _, _, rfl⟩⟩
    · refine (clone11_empty x cap w).mono ?_
      rintro e w' ⟨rfl, h1⟩
      exact ⟨_, rfl, h1, Or.inl ⟨rfl, _, _, rfl⟩⟩

set_option maxHeartbeats 400000 in
theorem clone12_in (b off len cap : Nat) (f : Nat → Int) (w : World) (hm : len ≤ 1048576) (hb : b < w.heap.size) (hc : ∀ i, i < len → w.cell? ⟨b, off + i, none⟩ = some (.int .i64 (f i))) :
    Calls Try.prog 12 #[.slice (some ⟨b, off, none⟩) len cap] w fun e w' => e = .returned (.slice (some ⟨w.heap.size, 0, none⟩) len len) ∧ Below w.heap.size w w' ∧ BlkTo w' 3 w.heap.size len len (fun i => .int .i64 (f i)) := by
  have qn : ∀ (w : World) (a : Option Addr) (n c n' c' : Nat), (binOp .eql 25 (.slice a n c) (.slice none n' c')).run Try.prog w = .ok (.bool a.isNone) w := fun w a n c n' c' => Lib.run_eql_slice_nil w _ _ a n c n' c' Try.underlying25
  obtain ⟨i, hi, hz0, hz1, hz2⟩ := info_parts Try.info3
  have HC : Hid (_) := hc
  clear hc
  go_enter Try.func12, Try.ntmps12
  go_wp2_with (at_make; refine wpList_make_full _ rfl _ _ 25 rfl w.heap.size 3 i _ 1 Try.underlying25 hi hz0 hz1 _ _ _ _ len rfl rfl rfl rfl (by rw [hz2]; omega) (by unfold maxLen; omega) (Nat.le_refl _) ?_)
  intro w1 hown hgrow
  have h0 : BlkTo w1 3 w.heap.size len 0 (fun i => .int .i64 (f i)) := BlkTo.of_own hown
  have hb0 : Below w.heap.size w w1 := (Below.refl _ _).grown hgrow (Nat.le_refl _) (fun k hk => by cases hk)
  clear hown hgrow
  go_wp2
  go_loopw [4] (fun x wr => ∃ k : Nat, k ≤ len ∧ x = .int .i64 k ∧ Hid (Below w.heap.size w wr ∧ BlkTo wr 3 w.heap.size len k (fun i => .int .i64 (f i)))) (fun x _ => len - (intOf x).toNat)
  case atStart => exact ⟨0, Nat.zero_le _, rfl, hb0, h0⟩
  case round =>
    obtain ⟨k, hk, rfl, HR⟩ := hrel
    by_cases hlt : k < len
    · have c1 : wr.cell? ⟨b, off + k, none⟩ = some (.int .i64 (f k)) := by rw [HR.out.1.cell hb]; exact HC.out k hlt
      obtain ⟨u, c2⟩ := HR.out.2.there hlt
      have c3 : wr.frozen? ⟨w.heap.size, k, none⟩ = false := HR.out.2.frozen
      go_wp2
      go_roundw
      case rel =>
        exact ⟨k + 1, by omega, by go_num, HR.out.1.setCell (Nat.le_refl _) _, HR.out.2.set hlt⟩
      case measure => simp [intOf]; omega
    · go_wp2
      go_ret
      have e : k = len := by omega
      subst e
      exact ⟨rfl, HR.out.1, HR.out.2⟩

set_option maxHeartbeats 400000 in
theorem clone12_empty (x : Addr) (cap : Nat) (w : World) :
    Calls Try.prog 12 #[.slice (some x) 0 cap] w fun e w' => e = .returned (.slice (some ⟨w.heap.size, 0, none⟩) 0 0) ∧ Below w.heap.size w w' := by
  have qn : ∀ (w : World) (a : Option Addr) (n c n' c' : Nat), (binOp .eql 25 (.slice a n c) (.slice none n' c')).run Try.prog w = .ok (.bool a.isNone) w := fun w a n c n' c' => Lib.run_eql_slice_nil w _ _ a n c n' c' Try.underlying25
  obtain ⟨i, hi, hz0, hz1, hz2⟩ := info_parts Try.info3
  go_enter Try.func12, Try.ntmps12
  go_wp2_with (at_make; refine wpList_make_full _ rfl _ _ 25 rfl w.heap.size 3 i _ 1 Try.underlying25 hi hz0 hz1 _ _ _ _ 0 rfl rfl rfl rfl (by rw [hz2]; omega) (by unfold maxLen; omega) (Nat.le_refl _) ?_)
  intro w1 hown hgrow
  have hb0 : Below w.heap.size w w1 := (Below.refl _ _).grown hgrow (Nat.le_refl _) (fun k hk => by cases hk)
  clear hown hgrow
  go_wp2
  go_loop [4] (fun x => x = .int .i64 0) (fun _ => 0)
  case atStart => rfl
  case round =>
    subst hrel
    go_wp2
    go_ret
    exact ⟨rfl, hb0⟩

set_option maxHeartbeats 400000 in
theorem clone12_nil (w : World) :
    Calls Try.prog 12 #[.slice none 0 0] w fun e w' => e = .returned (.slice none 0 0) ∧ w' = w := by
  have qn : ∀ (w : World) (a : Option Addr) (n c n' c' : Nat), (binOp .eql 25 (.slice a n c) (.slice none n' c')).run Try.prog w = .ok (.bool a.isNone) w := fun w a n c n' c' => Lib.run_eql_slice_nil w _ _ a n c n' c' Try.underlying25
  go_enter Try.func12, Try.ntmps12
  go_wp2
  go_ret
  exact ⟨rfl, rfl⟩

theorem clone12_any (a : Option Addr) (len cap : Nat) (f : Nat → Int) (w : World) (hm : len ≤ 1048576) (h : RowAt w a len cap (fun i => .int .i64 (f i))) :
    Calls Try.prog 12 #[.slice a len cap] w fun e w' => ∃ v, e = .returned v ∧ Below w.heap.size w w' ∧ OwnS w' w.heap.size 3 v len (fun i => .int .i64 (f i)) := by
  by_cases hl : 0 < len
  · obtain ⟨b, off, rfl, hb, hc⟩ := h.pos hl
    refine (clone12_in b off len cap f w hm hb hc).mono ?_
    rintro e w' ⟨rfl, h1, h2⟩
    exact ⟨_, rfl, h1, Or.inr ⟨_, rfl, Nat.le_refl _, h2⟩⟩
  · have e : len = 0 := by omega
    subst e
    rcases h with ⟨rfl, _, rfl⟩ | ⟨x, rfl, _⟩
    · refine (clone12_nil w).mono ?_
      rintro e w' ⟨rfl, rfl⟩
      exact ⟨_, rfl, Below.refl _ _, Or.inl ⟨rfl, _, _, rfl⟩⟩
    · refine (clone12_empty x cap w).mono ?_
      rintro e w' ⟨rfl, h1⟩
      exact ⟨_, rfl, h1, Or.inl ⟨rfl, _, _, rfl⟩⟩

set_option maxHeartbeats 400000 in
theorem clone19_in (b off len cap : Nat) (f : Nat → Int) (w : World) (hm : len ≤ 1048576) (hb : b < w.heap.size) (hc : ∀ i, i < len → w.cell? ⟨b, off + i, none⟩ = some (.int .u8 (f i))) :
    Calls Try.prog 19 #[.slice (some ⟨b, off, none⟩) len cap] w fun e w' => e = .returned (.slice (some ⟨w.heap.size, 0, none⟩) len len) ∧ Below w.heap.size w w' ∧ BlkTo w' 5 w.heap.size len len (fun i => .int .u8 (f i)) := by
  have qn : ∀ (w : World) (a : Option Addr) (n c n' c' : Nat), (binOp .eql 35 (.slice a n c) (.slice none n' c')).run Try.prog w = .ok (.bool a.isNone) w := fun w a n c n' c' => Lib.run_eql_slice_nil w _ _ a n c n' c' Try.underlying35
  obtain ⟨i, hi, hz0, hz1, hz2⟩ := info_parts Try.info5
  have HC : Hid (_) := hc
  clear hc
  go_enter Try.func19, Try.ntmps19
  go_wp2_with (at_make; refine wpList_make_full _ rfl _ _ 35 rfl w.heap.size 5 i _ 1 Try.underlying35 hi hz0 hz1 _ _ _ _ len rfl rfl rfl rfl (by rw [hz2]; omega) (by unfold maxLen; omega) (Nat.le_refl _) ?_)
  intro w1 hown hgrow
  have h0 : BlkTo w1 5 w.heap.size len 0 (fun i => .int .u8 (f i)) := BlkTo.of_own hown
  have hb0 : Below w.heap.size w w1 := (Below.refl _ _).grown hgrow (Nat.le_refl _) (fun k hk => by cases hk)
  clear hown hgrow
  go_wp2
  go_loopw [4] (fun x wr => ∃ k : Nat, k ≤ len ∧ x = .int .i64 k ∧ Hid (Below w.heap.size w wr ∧ BlkTo wr 5 w.heap.size len k (fun i => .int .u8 (f i)))) (fun x _ => len - (intOf x).toNat)
  case atStart => exact ⟨0, Nat.zero_le _, rfl, hb0, h0⟩
  case round =>
    obtain ⟨k, hk, rfl, HR⟩ := hrel
    by_cases hlt : k < len
    · have c1 : wr.cell? ⟨b, off + k, none⟩ = some (.int .u8 (f k)) := by rw [HR.out.1.cell hb]; exact HC.out k hlt
      obtain ⟨u, c2⟩ := HR.out.2.there hlt
      have c3 : wr.frozen? ⟨w.heap.size, k, none⟩ = false := HR.out.2.frozen
      go_wp2
      go_roundw
      case rel =>
        exact ⟨k + 1, by omega, by go_num, HR.out.1.setCell (Nat.le_refl _) _, HR.out.2.set hlt⟩
      case measure => simp [intOf]; omega
    · go_wp2
      go_ret
      have e : k = len := by omega
      subst e
      exact ⟨rfl, HR.out.1, HR.out.2⟩

set_option maxHeartbeats 400000 in
theorem clone19_empty (x : Addr) (cap : Nat) (w : World) :
    Calls Try.prog 19 #[.slice (some x) 0 cap] w fun e w' => e = .returned (.slice (some ⟨w.heap.size, 0, none⟩) 0 0) ∧ Below w.heap.size w w' := by
  have qn : ∀ (w : World) (a : Option Addr) (n c n' c' : Nat), (binOp .eql 35 (.slice a n c) (.slice none n' c')).run Try.prog w = .ok (.bool a.isNone) w := fun w a n c n' c' => Lib.run_eql_slice_nil w _ _ a n c n' c' Try.underlying35
  obtain ⟨i, hi, hz0, hz1, hz2⟩ := info_parts Try.info5
  go_enter Try.func19, Try.ntmps19
  go_wp2_with (at_make; refine wpList_make_full _ rfl _ _ 35 rfl w.heap.size 5 i _ 1 Try.underlying35 hi hz0 hz1 _ _ _ _ 0 rfl rfl rfl rfl (by rw [hz2]; omega) (by unfold maxLen; omega) (Nat.le_refl _) ?_)
  intro w1 hown hgrow
  have hb0 : Below w.heap.size w w1 := (Below.refl _ _).grown hgrow (Nat.le_refl _) (fun k hk => by cases hk)
  clear hown hgrow
  go_wp2
  go_loop [4] (fun x => x = .int .i64 0) (fun _ => 0)
  case atStart => rfl
  case round =>
    subst hrel
    go_wp2
    go_ret
    exact ⟨rfl, hb0⟩

set_option maxHeartbeats 400000 in
theorem clone19_nil (w : World) :
    Calls Try.prog 19 #[.slice none 0 0] w fun e w' => e = .returned (.slice none 0 0) ∧ w' = w := by
  have qn : ∀ (w : World) (a : Option Addr) (n c n' c' : Nat), (binOp .eql 35 (.slice a n c) (.slice none n' c')).run Try.prog w = .ok (.bool a.isNone) w := fun w a n c n' c' => Lib.run_eql_slice_nil w _ _ a n c n' c' Try.underlying35
  go_enter Try.func19, Try.ntmps19
  go_wp2
  go_ret
  exact ⟨rfl, rfl⟩

theorem clone19_any (a : Option Addr) (len cap : Nat) (f : Nat → Int) (w : World) (hm : len ≤ 1048576) (h : RowAt w a len cap (fun i => .int .u8 (f i))) :
    Calls Try.prog 19 #[.slice a len cap] w fun e w' => ∃ v, e = .returned v ∧ Below w.heap.size w w' ∧ OwnS w' w.heap.size 5 v len (fun i => .int .u8 (f i)) := by
  by_cases hl : 0 < len
  · obtain ⟨b, off, rfl, hb, hc⟩ := h.pos hl
    refine (clone19_in b off len cap f w hm hb hc).mono ?_
    rintro e w' ⟨rfl, h1, h2⟩
    exact ⟨_, rfl, h1, Or.inr ⟨_, rfl, Nat.le_refl _, h2⟩⟩
  · have e : len = 0 := by omega
    subst e
    rcases h with ⟨rfl, _, rfl⟩ | ⟨x, rfl, _⟩
    · refine (clone19_nil w).mono ?_
      rintro e w' ⟨rfl, rfl⟩
      exact ⟨_, rfl, Below.refl _ _, Or.inl ⟨rfl, _, _, rfl⟩⟩
    · refine (clone19_empty x cap w).mono ?_
      rintro e w' ⟨rfl, h1⟩
      exact ⟨_, rfl, h1, Or.inl ⟨rfl, _, _, rfl⟩⟩

def min4 (a b c d : Int) : Int := min (min (min a b) c) d
set_option maxHeartbeats 400000 in
theorem min4_any (a b c d : Int) (w : World) :
    Calls Try.prog 8 #[.int .i64 a, .int .i64 b, .int .i64 c, .int .i64 d] w fun e w' => e = .returned (.int .i64 (min4 a b c d)) ∧ w' = w := by
  go_enter Try.func8, Try.ntmps8
  go_wp2
  all_goals
    go_ret
    exact ⟨ret_int (by unfold min4; omega), rfl⟩
set_option maxHeartbeats 400000 in
theorem min5_any (a b c d x : Int) (w : World) :
    Calls Try.prog 16 #[.int .i64 a, .int .i64 b, .int .i64 c, .int .i64 d, .int .i64 x] w fun e w' => e = .returned (.int .i64 (min (min4 a b c d) x)) ∧ w' = w := by
  go_enter Try.func16, Try.ntmps16
  go_wp2_with (go_at_call 8; refine (min4_any _ _ _ _ _).mono ?_; rintro e w' ⟨rfl, rfl⟩)
  all_goals
    go_ret
    exact ⟨ret_int (by omega), rfl⟩

end Go.Proofs.Qxb6605570a
