import Derived.Test.Qxb6605570aPopS
import Derived.Maps.AppendAt
import Derived.OwnWalk
namespace Go.Proofs.Qxb6605570a
open Go.RowKit

/-- A payload's memory: nil, or a whole block of its own; its first bytes are told. -/
def PayOwn (w : World) (pa : Option Addr) (pl pc : Nat) (zf : Nat → Int) : Prop :=
  (pa = none ∧ pl = 0 ∧ pc = 0) ∨ ∃ b, pa = some ⟨b, 0, none⟩ ∧ pl ≤ pc ∧ pc ≤ maxLen ∧ BlkTo w 5 b pc pl (fun i => .int .u8 (zf i))

theorem PayOwn.row {w : World} {pa : Option Addr} {pl pc : Nat} {zf : Nat → Int} (h : PayOwn w pa pl pc zf) : RowAt w pa pl pc fun i => .int .u8 (zf i) := by
  rcases h with h | ⟨b, rfl, h1, h2, h3⟩
  · exact Or.inl h
  · refine Or.inr ⟨_, rfl, h1, h2, fun i hi => ?_⟩
    rw [show (⟨b, 0, none⟩ : Addr).add i = ⟨b, i, none⟩ from by unfold Addr.add; split <;> simp_all]
    exact h3.cell hi
theorem PayOwn.of_block {w w' : World} {pa : Option Addr} {pl pc : Nat} {zf : Nat → Int} (h : PayOwn w pa pl pc zf) (hb : ∀ x, pa = some x → w'.heap[x.block]? = w.heap[x.block]?) : PayOwn w' pa pl pc zf := by
  rcases h with h | ⟨b, e, h1, h2, h3⟩
  · exact Or.inl h
  · exact Or.inr ⟨b, e, h1, h2, h3.of_block (hb _ e)⟩
theorem PayOwn.lt {w : World} {pa : Option Addr} {pl pc : Nat} {zf : Nat → Int} (h : PayOwn w pa pl pc zf) : ∀ x, pa = some x → x.block < w.heap.size := by
  intro x hx
  rcases h with ⟨e, _⟩ | ⟨b, e, h1, h2, h3⟩
  · rw [e] at hx; cases hx
  · rw [e] at hx; cases hx; exact h3.lt
/-- The same memory, cut to nothing. -/
theorem PayOwn.own0 {w : World} {pa : Option Addr} {pl pc : Nat} {zf : Nat → Int} (h : PayOwn w pa pl pc zf) : w.ownsRow 0 5 1 (.slice pa 0 pc) 0 [] := by
  rcases h with ⟨rfl, rfl, rfl⟩ | ⟨b, rfl, h1, h2, cur, h3, h4, h5⟩
  · exact World.ownsRow_nil _ _ _ _
  · exact ⟨by simp, Or.inr ⟨b, pc, cur, rfl, Nat.zero_le _, h3, Nat.zero_le _, h2, by omega, by simp⟩⟩
theorem pay_of_own {w : World} {base m : Nat} {v : Value} {zf : Nat → Int} (h : w.ownsRow base 5 1 v m ((List.range m).map fun i => .int .u8 (zf i))) : ∃ a' c', v = .slice a' m c' ∧ PayOwn w a' m c' zf := by
  rcases h.2 with ⟨rfl, rfl⟩ | ⟨g, cap, cur, rfl, _, h2, h3, h4, h5, h6⟩
  · exact ⟨none, 0, rfl, Or.inl ⟨rfl, rfl, rfl⟩⟩
  · refine ⟨_, _, rfl, Or.inr ⟨g, rfl, h3, h4, cur, h2, by omega, fun i hi => ?_⟩⟩
    have e1 : (cur.toList.take (m * 1))[i]? = cur[i]? := by
      rw [List.getElem?_take]; simp [show i < m from hi]
    rw [← e1, h6]
    simp [hi]

/-- append(spare[:0], payload...): the payload's bytes in the spare memory or in a new block. -/
theorem wpList_append_pay (w : World) {ops : Array Oper} {rest : List Oper} {o : Oper} {a : Act} {Q : Exit → Act → World → Prop} (hgd : o.guard = none) (s x : Operand)
    (ho : o.op = .call { callee := .builtin .append, args := #[s, x], argTypes := #[35, 35] })
    (sa : Option Addr) (sl sc : Nat) (zs : Nat → Int) (hs : a.eval s = .slice sa 0 sc) (hown : PayOwn w sa sl sc zs)
    (pa : Option Addr) (pl pc : Nat) (zf : Nat → Int) (hx : a.eval x = .slice pa pl pc) (hr : RowAt w pa pl pc fun i => .int .u8 (zf i)) (hl : pl ≤ 1048576)
    (h : ∀ a' c' w', PayOwn w' a' pl c' zf → w.grownBy w' (sa.map (·.block)) → (∀ y, a' = some y → sa.map (·.block) = some y.block ∨ y.block = w.heap.size) → wpList Try.prog ops Q rest (a.put o.dst (.slice a' pl c')) w') :
    wpList Try.prog ops Q (o :: rest) a w := by
  obtain ⟨i, hi, hz0, hz1, hz2⟩ := info_parts Try.info5
  have hob : (Value.slice sa 0 sc).ownBlock = sa.map (·.block) := by cases sa <;> rfl
  rcases hr with ⟨rfl, rfl, rfl⟩ | ⟨ad, rfl, h1, h2, h3⟩
  · refine wpList_plain hgd fun K hK' => ?_
    have hrun := run_append_owned_none (P := Try.prog) w 0 35 o.type 5 i 1 Try.underlying35 hi _ 0 [] hown.own0
    unfold Oper.wp
    simp [execOp, ho, resolve, invoke, builtin, hs, hx, hrun, Result.andThen]
    refine hK' _ _ (h sa sc w ?_ (World.grownBy.refl _ _) (fun y hy => Or.inl (by rw [hy]; rfl)))
    rcases hown with ⟨e1, e2, e3⟩ | ⟨b, e1, e2, e3, e4⟩
    · exact Or.inl ⟨e1, rfl, e3⟩
    · exact Or.inr ⟨b, e1, Nat.zero_le _, e3, (by obtain ⟨cur, q1, q2, q3⟩ := e4; exact ⟨cur, q1, q2, fun i hi => by omega⟩)⟩
  · refine wpList_append_own_at (P := Try.prog) w hgd s x 35 ho 0 5 i _ 1 1 Try.underlying35 hi hz0 hz1 hz2 rfl (by omega) _ 0 [] hs hown.own0 ad pl pc ((List.range pl).map fun i => .int .u8 (zf i)) hx (by simp) ?_ ?_ (by unfold maxLen; omega) (by omega) (Nat.zero_le _) ?_
    · intro j u hu
      rw [List.getElem?_map] at hu
      by_cases hj : j < pl
      · rw [List.getElem?_range hj] at hu
        cases hu
        exact h3 j hj
      · rw [List.getElem?_eq_none (by simp; omega)] at hu
        cases hu
    · intro u hu
      rw [List.mem_map] at hu
      obtain ⟨_, _, rfl⟩ := hu
      rfl
    · intro v' w' g1 g2 _ g3
      rw [Nat.zero_add, List.nil_append] at g1
      obtain ⟨a', c', rfl, g4⟩ := pay_of_own g1
      rw [hob] at g2 g3
      refine h a' c' w' g4 g2 (fun y hy => ?_)
      subst hy
      rcases g3 with g3 | g3
      · exact Or.inl g3.symm
      · exact Or.inr (Option.some.inj g3)

set_option maxHeartbeats 1000000 in
/-- keptCopy where a slot is left: the memory that it keeps is used again, where it serves. -/
theorem kept_room (g k cap : Nat) (f : Nat → Pk) (pa : Option Addr) (pl pc : Nat) (zf zs : Nat → Int) (w : World) (hk : k < cap) (hcap : cap ≤ 4097) (y : BlkTo w 46 g (5 * cap) (5 * cap) (hc f))
    (hs : PayOwn w (f k).pa (f k).pl (f k).pc zs) (hr : RowAt w pa pl pc fun i => .int .u8 (zf i)) (hl : pl ≤ 1048576) :
    Calls Try.prog 34 #[.slice (some ⟨g, 0, none⟩) k cap, .slice pa pl pc] w fun e w' => ∃ a' c', e = .returned (.slice a' pl c') ∧ PayOwn w' a' pl c' zf ∧ w.grownBy w' ((f k).pa.map (·.block)) ∧ ∀ y, a' = some y → (f k).pa.map (·.block) = some y.block ∨ y.block = w.heap.size := by
  obtain ⟨b0, b1, b2, b3, b4⟩ := y.pk hk
  have z1 : (k : Int) < (cap : Int) := by omega
  clear b0 b1 b2 b3
  generalize (f k).pa = sa at *
  generalize (f k).pl = sl at *
  generalize (f k).pc = sc at *
  have HS : Hid (_) := hs
  have HR : Hid (_) := hr
  rcases hs with ⟨rfl, rfl, rfl⟩ | ⟨b, rfl, h1, _⟩
  · clear hr
    go_enter Try.func34, Try.ntmps34
    go_wp2_with (at_builtin; refine wpList_append_pay w rfl (.tmp 22) (.tmp 23) rfl none 0 0 zs rfl HS.out pa pl pc zf rfl HR.out hl ?_)
    intro a' c' w' q1 q2 q3
    go_wp2
    go_ret
    exact ⟨a', c', rfl, q1, q2, fun y hy => Or.inr (q3 y hy)⟩
  · clear hr
    go_enter Try.func34, Try.ntmps34
    go_wp2_with (at_builtin; refine wpList_append_pay w rfl (.tmp 22) (.tmp 23) rfl (some ⟨b, 0, none⟩) sl sc zs rfl HS.out pa pl pc zf rfl HR.out hl ?_)
    all_goals
      intro a' c' w' q1 q2 q3
      go_wp2
      go_ret
      exact ⟨a', c', rfl, q1, q2, fun y hy => (q3 y hy).imp (fun h => congrArg some h) id⟩

set_option maxHeartbeats 1000000 in
/-- keptCopy where the heap is full: a new copy. -/
theorem kept_full (a : Option Addr) (k : Nat) (pa : Option Addr) (pl pc : Nat) (zf : Nat → Int) (w : World) (hr : RowAt w pa pl pc fun i => .int .u8 (zf i)) (hl : pl ≤ 1048576) :
    Calls Try.prog 34 #[.slice a k k, .slice pa pl pc] w fun e w' => ∃ a' c', e = .returned (.slice a' pl c') ∧ PayOwn w' a' pl c' zf ∧ w.grownBy w' none ∧ ∀ y, a' = some y → y.block = w.heap.size := by
  have HR : Hid (_) := hr
  have HS : Hid (PayOwn w none 0 0 zf) := Or.inl ⟨rfl, rfl, rfl⟩
  clear hr
  go_enter Try.func34, Try.ntmps34
  go_wp2_with (at_builtin; refine wpList_append_pay w rfl (.tmp 22) (.tmp 23) rfl none 0 0 zf rfl HS.out pa pl pc zf rfl HR.out hl ?_)
  intro a' c' w' q1 q2 q3
  go_wp2
  go_ret
  exact ⟨a', c', rfl, q1, q2, q3⟩

end Go.Proofs.Qxb6605570a
