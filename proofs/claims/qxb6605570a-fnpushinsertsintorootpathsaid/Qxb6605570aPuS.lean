import Derived.Test.Qxb6605570aPath
import Derived.Test.Qxb6605570aScr
import Derived.Test.Qxb6605570aPshB
namespace Go.Proofs.Qxb6605570a
open Go.RowKit

theorem OwnS.form' {w : World} {B : Nat} {e : TypeId} {v : Value} {n : Nat} {f : Nat → Value} (h : OwnS w B e v n f) : ∃ a c, v = .slice a n c ∧ (0 < n → ∃ g, a = some ⟨g, 0, none⟩ ∧ c = n ∧ BlkTo w e g n n f) := by
  rcases h with ⟨rfl, a, c, rfl⟩ | ⟨g, rfl, _, h⟩
  · exact ⟨a, c, rfl, fun h => by omega⟩
  · exact ⟨_, _, rfl, fun _ => ⟨g, rfl, rfl, h⟩⟩

/-- The clones, their shapes told where there is a packet. -/
def GC (W : World) (x0 x1 x2 x3 x4 : Option Addr) (y0 y1 y2 y3 y4 l0 l1 l2 l3 l4 n : Nat) (S T : Nat → Int) (M : Nat → Bool) (Z : Nat → Int) (A : Nat → Option Addr) (L C : Nat → Nat) (z : Nat → Nat → Int) : Prop :=
  0 < n → ∃ g0 g1 g2 g3 g4, x0 = some ⟨g0, 0, none⟩ ∧ x1 = some ⟨g1, 0, none⟩ ∧ x2 = some ⟨g2, 0, none⟩ ∧ x3 = some ⟨g3, 0, none⟩ ∧ x4 = some ⟨g4, 0, none⟩ ∧ (y0 = l0 ∧ y1 = l1 ∧ y2 = l2 ∧ y3 = l3 ∧ y4 = l4) ∧ Clo W g0 g1 g2 g3 g4 l0 l1 l2 l3 l4 S T M Z A L C z

theorem build_gen (x0 x1 x2 x3 x4 : Option Addr) (y0 y1 y2 y3 y4 l0 l1 l2 l3 l4 n : Nat) (S T : Nat → Int) (M : Nat → Bool) (Z : Nat → Int) (A : Nat → Option Addr) (L C : Nat → Nat) (z : Nat → Nat → Int) (w : World) (hn : n ≤ 4096)
    (n0 : n ≤ l0) (n1 : n ≤ l1) (n2 : n ≤ l2) (n3 : n ≤ l3) (n4 : n ≤ l4) (gc : GC w x0 x1 x2 x3 x4 y0 y1 y2 y3 y4 l0 l1 l2 l3 l4 n S T M Z A L C z) :
    Calls Try.prog 20 #[.slice x0 l0 y0, .slice x1 l1 y1, .slice x2 l2 y2, .slice x3 l3 y3, .slice x4 l4 y4, .int .i64 n] w fun e w' =>
      e = .returned (.slice (some ⟨w.heap.size, 0, none⟩) n n) ∧ Below w.heap.size w w' ∧ BlkTo w' 46 w.heap.size (5 * n) (5 * n) (hc fun i => ⟨S i, T i, M i, Z i, A i, L i, C i⟩) := by
  by_cases h : 0 < n
  · obtain ⟨g0, g1, g2, g3, g4, rfl, rfl, rfl, rfl, rfl, ⟨rfl, rfl, rfl, rfl, rfl⟩, cl⟩ := gc h
    exact build_any g0 g1 g2 g3 g4 _ _ _ _ _ n S T M Z A L C w hn n0 n1 n2 n3 n4 cl.k0 cl.k1 cl.k2 cl.k3 cl.k4
  · have e : n = 0 := by omega
    subst e
    refine (build_zero _ _ _ _ _ w).mono ?_
    rintro e w' ⟨rfl, h1, h2⟩
    exact ⟨rfl, h1, h2 _⟩

/-- What holds behind the push. -/
structure Pst (w9 W : World) (HB GH cap' n R : Nat) (p : Pk) (zf : Nat → Int) (F : Nat → Pk) : Prop where
  bel : Below w9.heap.size w9 W
  hcell : Lies W HB #[.slice (some ⟨GH, 0, none⟩) (n + 1) cap'] 43
  heap : BlkTo W 46 GH (5 * cap') (5 * (n + 1)) (hc F)
  pay : PayOwn W p.pa p.pl p.pc zf
  box : Lies W R p.arr 46

theorem Pst.below {w9 W W' : World} {HB GH cap' n R : Nat} {p : Pk} {zf : Nat → Int} {F : Nat → Pk} (h : Pst w9 W HB GH cap' n R p zf F) (hb : Below W.heap.size W W') : Pst w9 W' HB GH cap' n R p zf F :=
  ⟨h.bel.trans (hb.mono h.bel.size), h.hcell.of_block (hb.block _ h.hcell.lt), h.heap.below hb h.heap.lt, h.pay.of_block (fun x hx => hb.block _ (h.pay.lt x hx)), h.box.of_block (hb.block _ h.box.lt)⟩

theorem pst_start {w9 w11 w12 : World} {HB GB g' cap' n : Nat} {p : Pk} {zf : Nat → Int} {F : Nat → Pk} (b1 : Below w9.heap.size w9 w11) (h1 : w9.heap.size ≤ HB) (h2 : w9.heap.size ≤ GB) (h : PEnd w11 w12 HB GB n g' cap' (n + 1) none p zf F) :
    Pst w9 (w12.alloc (.cells p.arr 46)) HB g' cap' n w12.heap.size p zf F := by
  have s1 := b1.size
  have B : Below w9.heap.size w9 w12 := b1.trans ⟨h.os, h.tape, h.output, h.size, fun j hj => h.block j (by omega) (by omega) (by omega) (fun e => by cases e)⟩
  have B2 : Below w12.heap.size w12 (w12.alloc (.cells p.arr 46)) := (Below.refl _ _).alloc (Nat.le_refl _) _
  exact ⟨B.alloc B.size _, h.hcell.alloc _, h.heap.alloc _, h.pay.of_block (fun x hx => B2.block _ (h.pay.lt x hx)), Lies.new _ _ _⟩

theorem one_new' (w : World) (v : Value) (e : TypeId) : ∀ j u, [v][j]? = some u → (w.alloc (.cells #[v] e)).cell? ((⟨w.heap.size, 0, none⟩ : Addr).add j) = some u := by
  intro j u hu
  rw [show (⟨w.heap.size, 0, none⟩ : Addr).add j = ⟨w.heap.size, j, none⟩ from by unfold Addr.add; split <;> simp_all, cell_of_row _ w.heap.size j _ e (0, 0) (heap_alloc_new w _)]
  simpa using hu
/-- One number more in the path's row. -/
theorem up_step {wr w7 : World} {GU k c : Nat} {lv : List Nat} {o : Obj} (hl : lv.length = k) (hown : w7.ownsRow 0 3 1 (.slice (some ⟨GU, 0, none⟩) (k + 1) 64) (k + 1) ((lv.map fun a => .int .i64 ((a : Nat) : Int)) ++ [.int .i64 (c : Int)])) (hgr : (wr.alloc o).grownBy w7 (some GU)) (B : Nat) (hB : B ≤ wr.heap.size) (hG : B ≤ GU) :
    BlkTo w7 3 GU 64 (k + 1) (lvc (lv ++ [c])) ∧ Below B wr w7 := by
  subst hl
  have e1 : (lv ++ [c]).length = lv.length + 1 := by simp
  refine ⟨?_, ?_⟩
  · rw [← e1]
    apply live_of_own (base := 0)
    rw [e1, List.map_append]
    exact hown
  · exact ((Below.refl _ _).alloc hB o).grown hgr (by simp; omega) (fun k hk => by cases hk; exact hG)

end Go.Proofs.Qxb6605570a
