import Derived.Test.Qxb6605570aMatch
import Derived.Test.Qxb6605570aPopB
namespace Go.Proofs.Qxb6605570a
open Go.RowKit

theorem isB_self (s t : Int) (m : Bool) (z : Int) (l : Nat) (f : Nat → Int) : isB s t m z l f s t m z l f = true := by
  unfold isB
  rw [decide_eq_true ⟨rfl, rfl, rfl, rfl⟩, eqB_true fun _ _ => rfl]; rfl

/-- What a law of the heap has laid: the five clones, the payloads, h's own cell, the heap's block, the box of the packet taken out. -/
structure Laid (W : World) (hb g rb K g0 g1 g2 g3 g4 l0 l1 l2 l3 l4 : Nat) (hv : Value) (r : Pk) (F : Nat → Pk) (S T : Nat → Int) (M : Nat → Bool) (Z : Nat → Int) (A : Nat → Option Addr) (L C : Nat → Nat) (z : Nat → Nat → Int) : Prop where
  k0 : BlkTo W 2 g0 l0 l0 fun i => .int .i64 (S i)
  k1 : BlkTo W 32 g1 l1 l1 fun i => .int .u32 (T i)
  k2 : BlkTo W 4 g2 l2 l2 fun i => .bool (M i)
  k3 : BlkTo W 3 g3 l3 l3 fun i => .int .i64 (Z i)
  k4 : BlkTo W 35 g4 l4 l4 fun i => .slice (A i) (L i) (C i)
  rows : Rows2 W l4 A L C z
  hcell : Lies W hb #[hv] 43
  heap : BlkTo W 46 g (5 * K) (5 * K) (hc F)
  rbox : Lies W rb r.arr 46

theorem Laid.below {W W' : World} {hb g rb K g0 g1 g2 g3 g4 l0 l1 l2 l3 l4 : Nat} {hv : Value} {r : Pk} {F : Nat → Pk} {S T : Nat → Int} {M : Nat → Bool} {Z : Nat → Int} {A : Nat → Option Addr} {L C : Nat → Nat} {z : Nat → Nat → Int}
    (h : Laid W hb g rb K g0 g1 g2 g3 g4 l0 l1 l2 l3 l4 hv r F S T M Z A L C z) (hB : Below W.heap.size W W') : Laid W' hb g rb K g0 g1 g2 g3 g4 l0 l1 l2 l3 l4 hv r F S T M Z A L C z :=
  ⟨h.k0.below hB h.k0.lt, h.k1.below hB h.k1.lt, h.k2.below hB h.k2.lt, h.k3.below hB h.k3.lt, h.k4.below hB h.k4.lt, h.rows.below hB, h.hcell.of_block (hB.block _ h.hcell.lt), h.heap.below hB h.heap.lt, h.rbox.of_block (hB.block _ h.rbox.lt)⟩

theorem After.below {w wd : World} {hb g K B : Nat} {hv : Value} {f : Nat → Pk} (h : After w wd hb g K hv f) (h1 : B ≤ hb) (h2 : B ≤ g) (h3 : B ≤ w.heap.size) : Below B w wd := by
  refine ⟨?_, ?_, ?_, ?_, ?_⟩
  all_goals first | exact h.os | exact h.tape | exact h.output | (have := h.size; omega) | (intro k hk; exact h.block k (by omega) (by omega) (by omega))

theorem RowAt.belowB {w w' : World} {a : Option Addr} {len cap B : Nat} {f : Nat → Value} (h : RowAt w a len cap f) (hb : Below B w w') (hx : ∀ x, a = some x → 0 < len → x.block < B) : RowAt w' a len cap f :=
  h.of_block fun x e hl => hb.block _ (hx x e hl)

theorem laid_pop {w9 w10 w11 : World} {o : Obj} {K g0 g1 g2 g3 g4 l0 l1 l2 l3 l4 : Nat} {hv : Value} (r : Pk) {F : Nat → Pk} {S T : Nat → Int} {M : Nat → Bool} {Z : Nat → Int} {A : Nat → Option Addr} {L C : Nat → Nat} {z : Nat → Nat → Int}
    (k0 : BlkTo w9 2 g0 l0 l0 fun i => .int .i64 (S i)) (k1 : BlkTo w9 32 g1 l1 l1 fun i => .int .u32 (T i)) (k2 : BlkTo w9 4 g2 l2 l2 fun i => .bool (M i)) (k3 : BlkTo w9 3 g3 l3 l3 fun i => .int .i64 (Z i)) (pays : Pays w9 g4 l4 l4 L z A C)
    (hb10 : Below w9.heap.size w9 w10) (hA : After (w10.alloc o) w11 w10.heap.size w9.heap.size K hv F) :
    Laid (w11.alloc (.cells r.arr 46)) w10.heap.size w9.heap.size w11.heap.size K g0 g1 g2 g3 g4 l0 l1 l2 l3 l4 hv r F S T M Z A L C z := by
  have s1 := hb10.size
  have B1 : Below w9.heap.size w9 (w10.alloc o) := hb10.alloc s1 o
  have B2 : Below w9.heap.size w9 w11 := B1.trans (hA.below s1 (Nat.le_refl _) (by simp; omega))
  have B3 : Below w9.heap.size w9 (w11.alloc (.cells r.arr 46)) := B2.alloc B2.size _
  exact ⟨k0.below B3 k0.lt, k1.below B3 k1.lt, k2.below B3 k2.lt, k3.below B3 k3.lt, pays.1.below B3 pays.1.lt, fun i hi => (pays.2 i hi).1.below B3, hA.hcell.alloc _, hA.heap.alloc _, Lies.new _ _ _⟩

/-- All that a packet is judged by. -/
def ct (S T : Nat → Int) (M : Nat → Bool) (Z : Nat → Int) (L : Nat → Nat) (z : Nat → Nat → Int) (k : Nat) : Int × Int × Bool × Int × List Int := (S k, T k, M k, Z k, (List.range (L k)).map (z k))

theorem eqB_iff {l1 l2 : Nat} {f g : Nat → Int} : eqB l1 l2 f g = true ↔ (List.range l1).map f = (List.range l2).map g := by
  unfold eqB
  rw [decide_eq_true_iff]
  constructor
  · rintro ⟨rfl, h⟩
    exact List.map_congr_left fun i hi => h i (List.mem_range.1 hi)
  · intro h
    have e : l1 = l2 := by simpa using congrArg List.length h
    subst e
    refine ⟨rfl, fun i hi => ?_⟩
    have := congrArg (fun l => l[i]?) h
    simpa [hi] using this

theorem isB_iff (S T : Nat → Int) (M : Nat → Bool) (Z : Nat → Int) (L : Nat → Nat) (z : Nat → Nat → Int) (j k : Nat) :
    isB (S j) (T j) (M j) (Z j) (L j) (z j) (S k) (T k) (M k) (Z k) (L k) (z k) = true ↔ ct S T M Z L z j = ct S T M Z L z k := by
  unfold isB ct
  rw [Bool.and_eq_true, decide_eq_true_iff, eqB_iff]
  simp only [Prod.mk.injEq]
  constructor
  · rintro ⟨⟨a, b, c, d⟩, e⟩; exact ⟨a, b, c, d, e⟩
  · rintro ⟨a, b, c, d, e⟩; exact ⟨⟨a, b, c, d⟩, e⟩

theorem pop_match (f : Nat → Pk) (m : Nat) : ∃ J : List Nat, J.Perm ((List.range m).map (· + 1)) ∧ J.length = m ∧ ∀ i, i < m → popF f m i = f (J.getD i 0) ∧ J.getD i 0 ≤ m := by
  obtain ⟨J, h1, h2⟩ := perm_index f (pop_perm f m) ((List.range m).map (· + 1)) (by rw [List.map_map]; rfl)
  have hl : J.length = m := by simpa using h1.length_eq
  refine ⟨J, h1, hl, fun i hi => ?_⟩
  have hj : J[i]? = some (J.getD i 0) := by
    rw [List.getD_eq_getElem?_getD, List.getElem?_eq_getElem (by omega)]; rfl
  have h3 := congrArg (fun l => l[i]?) h2
  simp only [List.getElem?_map, hj, List.getElem?_range hi, Option.map_some, Option.some.injEq] at h3
  refine ⟨h3, ?_⟩
  have hm : J.getD i 0 ∈ J := List.mem_of_getElem? hj
  have := h1.mem_iff.1 hm
  rw [List.mem_map] at this
  obtain ⟨a, ha, e⟩ := this
  rw [List.mem_range] at ha
  omega

theorem packetIs_self (s t : Int) (m : Bool) (x : Int) (a1 : Option Addr) (l c1 : Nat) (f : Nat → Int) (a2 : Option Addr) (c2 : Nat) (w : World) (r1 : RowAt w a1 l c1 fun i => .int .u8 (f i)) (r2 : RowAt w a2 l c2 fun i => .int .u8 (f i)) :
    Calls Try.prog 23 #[.agg #[.int .i64 s, .int .u32 t, .bool m, .int .i64 x, .slice a1 l c1], .int .i64 s, .int .u32 t, .bool m, .int .i64 x, .slice a2 l c2] w fun e w' => e = .returned (.bool true) ∧ Below w.heap.size w w' := by
  refine (packetIs_any s t m x a1 l c1 f s t m x a2 l c2 f w r1 r2).mono ?_
  rintro e w' ⟨rfl, h⟩
  exact ⟨ret_bool (isB_self _ _ _ _ _ _), h⟩

theorem BlkTo.less {w : World} {e g n k k' : Nat} {f : Nat → Value} (h : BlkTo w e g n k f) (hk : k' ≤ k) : BlkTo w e g n k' f := by
  obtain ⟨cur, h1, h2, h3⟩ := h
  exact ⟨cur, h1, h2, fun i hi => h3 i (by omega)⟩

/-- A row of booleans that has just been made. -/
theorem BlkTo.of_made {w : World} {base g n : Nat} (h : w.ownsRow base 4 1 (.slice (some ⟨g, 0, none⟩) n n) n (madeCells #[.bool false] n).toList) : BlkTo w 4 g n n fun _ => .bool false := by
  rcases h.2 with ⟨h1, _⟩ | ⟨g', cap, cur, h1, _, h2, _, _, h3, h4⟩
  · cases h1
  · cases h1
    refine ⟨cur, h2, by omega, fun i hi => ?_⟩
    have e1 : (cur.toList.take (n * 1))[i]? = cur[i]? := by
      rw [List.getElem?_take]; simp [show i < n from hi]
    rw [← e1, h4]
    simp [madeCells, hi, Nat.mod_one]

end Go.Proofs.Qxb6605570a
