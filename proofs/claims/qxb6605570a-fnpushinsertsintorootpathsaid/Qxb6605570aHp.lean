import Derived.Test.Qxb6605570aPre
import Derived.Deep.RegionHeld3
import Derived.Deep.RegionLaw
namespace Go.Proofs.Qxb6605570a
open Go.RowKit

theorem Try.info46 : (Try.prog.info? 46).map (fun i => (i.zero, i.size, i.bytes)) = some (some (.agg #[.int .i64 0, .int .u32 0, .bool false, .int .i64 0, .slice none 0 0]), 5, 48) := by kernel_rfl

/-- The five cells of a packet. -/
def Pk.cell (p : Pk) : Nat → Value
  | 0 => .int .i64 p.seq
  | 1 => .int .u32 p.ts
  | 2 => .bool p.mkr
  | 3 => .int .i64 p.sz
  | _ => .slice p.pa p.pl p.pc
def Pk.cs (p : Pk) : List Value := [.int .i64 p.seq, .int .u32 p.ts, .bool p.mkr, .int .i64 p.sz, .slice p.pa p.pl p.pc]
/-- The cells of a row of packets. -/
def hc (f : Nat → Pk) (m : Nat) : Value := (f (m / 5)).cell (m % 5)

theorem hc_at (f : Nat → Pk) (i j : Nat) (hj : j < 5) : hc f (5 * i + j) = (f i).cell j := by
  unfold hc
  rw [show (5 * i + j) / 5 = i from by omega, show (5 * i + j) % 5 = j from by omega]

theorem setCells_five (w : World) (b o : Nat) (v0 v1 v2 v3 v4 : Value) :
    w.setCells b o [v0, v1, v2, v3, v4] = ((((w.setCell ⟨b, o, none⟩ v0).setCell ⟨b, o + 1, none⟩ v1).setCell ⟨b, o + 2, none⟩ v2).setCell ⟨b, o + 3, none⟩ v3).setCell ⟨b, o + 4, none⟩ v4 := rfl

/-- Five cells more: one packet more. -/
theorem BlkTo.pack {w : World} {g N k : Nat} {f f' : Nat → Pk} {p : Pk} (h : BlkTo w 46 g (5 * N) (5 * k) (hc f)) (hk : k < N) (hp : f' k = p) (ho : ∀ i, i < k → f' i = f i) : BlkTo (w.setCells g (5 * k) p.cs) 46 g (5 * N) (5 * (k + 1)) (hc f') := by
  subst hp
  unfold Pk.cs
  rw [setCells_five]
  have ho' : ∀ i, i < 5 * k → hc f' i = hc f i := by
    intro i hi; unfold hc; rw [ho _ (by omega)]
  have h1 := h.set' (f' := hc f') (v := .int .i64 (f' k).seq) (by omega) (by have := hc_at f' k 0 (by omega); exact this) ho'
  have h2 := h1.set' (f' := hc f') (v := .int .u32 (f' k).ts) (by omega) (hc_at f' k 1 (by omega)) (fun _ _ => rfl)
  have h3 := h2.set' (f' := hc f') (v := .bool (f' k).mkr) (by omega) (hc_at f' k 2 (by omega)) (fun _ _ => rfl)
  have h4 := h3.set' (f' := hc f') (v := .int .i64 (f' k).sz) (by omega) (hc_at f' k 3 (by omega)) (fun _ _ => rfl)
  have h5 := h4.set' (f' := hc f') (v := .slice (f' k).pa (f' k).pl (f' k).pc) (by omega) (hc_at f' k 4 (by omega)) (fun _ _ => rfl)
  exact h5

theorem BlkTo.of_own5 {w : World} {base g n : Nat} {xs : List Value} {f : Nat → Value} (h : w.ownsRow base 46 5 (.slice (some ⟨g, 0, none⟩) 0 n) 0 xs) : BlkTo w 46 g (5 * n) (5 * 0) f := by
  rcases h.2 with ⟨h1, _⟩ | ⟨g', cap, cur, h1, _, h2, _, _, h3, _⟩
  · cases h1
  · cases h1
    exact ⟨cur, h2, by omega, fun i hi => by omega⟩
theorem BlkTo.alloc {w : World} {e g n k : Nat} {f : Nat → Value} (h : BlkTo w e g n k f) (o : Obj) : BlkTo (w.alloc o) e g n k f :=
  h.of_block (Below.heap_alloc w o g h.lt)
theorem below_setCells {B : Nat} {a w : World} (h : Below B a w) {b : Nat} (hb : B ≤ b) (o : Nat) (vs : List Value) : Below B a (w.setCells b o vs) := by
  induction vs generalizing w o with
  | nil => exact h
  | cons v vs ih => exact ih (h.setCell (p := ⟨b, o, none⟩) hb v) (o + 1)
/-- The five cells that are to be appended lie in a block that has just been laid. -/
theorem news_alloc (w : World) (p : Pk) : ∀ j u, p.cs[j]? = some u → (w.alloc (.cells #[.int .i64 p.seq, .int .u32 p.ts, .bool p.mkr, .int .i64 p.sz, .slice p.pa p.pl p.pc] 46)).cell? ((⟨w.heap.size, 0, none⟩ : Addr).add j) = some u := by
  intro j u hu
  rw [show (⟨w.heap.size, 0, none⟩ : Addr).add j = ⟨w.heap.size, j, none⟩ from by unfold Addr.add; split <;> simp_all, cell_of_row _ w.heap.size j _ 46 (0, 0) (heap_alloc_new w _)]
  simpa [Pk.cs] using hu
theorem cs_one (p : Pk) : ∀ u ∈ p.cs, u.oneCell' = true := by
  intro u hu
  simp [Pk.cs] at hu
  rcases hu with rfl | rfl | rfl | rfl | rfl <;> rfl
/-- Room for one packet more. -/
theorem spare_of {w : World} {g n k : Nat} {f : Nat → Value} {p : Pk} (h : BlkTo w 46 g (5 * n) (5 * k) f) (hk : k < n) : ∀ j, j < p.cs.length → (w.cell? ⟨g, 0 + k * 5 + j, none⟩).isSome = true ∧ w.frozen? ⟨g, 0 + k * 5 + j, none⟩ = false := by
  intro j hj
  have hj5 : j < 5 := hj
  obtain ⟨u, hu⟩ := h.there (i := 0 + k * 5 + j) (by omega)
  exact ⟨by rw [hu]; rfl, h.frozen⟩

set_option maxHeartbeats 400000 in
theorem build_any (g0 g1 g2 g3 g4 l0 l1 l2 l3 l4 n : Nat) (S T : Nat → Int) (M : Nat → Bool) (Z : Nat → Int) (A : Nat → Option Addr) (L C : Nat → Nat) (w : World) (hn : n ≤ 4096)
    (n0 : n ≤ l0) (n1 : n ≤ l1) (n2 : n ≤ l2) (n3 : n ≤ l3) (n4 : n ≤ l4)
    (k0 : BlkTo w 2 g0 l0 l0 fun i => .int .i64 (S i)) (k1 : BlkTo w 32 g1 l1 l1 fun i => .int .u32 (T i)) (k2 : BlkTo w 4 g2 l2 l2 fun i => .bool (M i)) (k3 : BlkTo w 3 g3 l3 l3 fun i => .int .i64 (Z i))
    (k4 : BlkTo w 35 g4 l4 l4 fun i => .slice (A i) (L i) (C i)) :
    Calls Try.prog 20 #[.slice (some ⟨g0, 0, none⟩) l0 l0, .slice (some ⟨g1, 0, none⟩) l1 l1, .slice (some ⟨g2, 0, none⟩) l2 l2, .slice (some ⟨g3, 0, none⟩) l3 l3, .slice (some ⟨g4, 0, none⟩) l4 l4, .int .i64 n] w fun e w' =>
      e = .returned (.slice (some ⟨w.heap.size, 0, none⟩) n n) ∧ Below w.heap.size w w' ∧ BlkTo w' 46 w.heap.size (5 * n) (5 * n) (hc fun i => ⟨S i, T i, M i, Z i, A i, L i, C i⟩) := by
  obtain ⟨i, hi, hz0, hz1, hz2⟩ := info_parts Try.info46
  go_enter Try.func20, Try.ntmps20
  go_wp2_with (at_make; refine wpList_make_own _ rfl _ _ 43 rfl w.heap.size 46 i _ 5 Try.underlying43 hi hz0 hz1 _ _ _ n rfl rfl rfl (by rw [hz2]; omega) (by unfold maxLen; omega) (Nat.le_refl _) ?_)
  intro w1 hown hgrow
  have y0 : BlkTo w1 46 w.heap.size (5 * n) (5 * 0) (hc fun i => ⟨S i, T i, M i, Z i, A i, L i, C i⟩) := BlkTo.of_own5 hown
  have hb0 : Below w.heap.size w w1 := (Below.refl _ _).grown hgrow (Nat.le_refl _) (fun k hk => by cases hk)
  clear hown hgrow
  go_wp2
  go_loopw [13, 14] (fun h x wr => ∃ k : Nat, k ≤ n ∧ x = .int .i64 k ∧ h = .slice (some ⟨w.heap.size, 0, none⟩) k n ∧ Hid (Below w.heap.size w wr ∧ BlkTo wr 46 w.heap.size (5 * n) (5 * k) (hc fun i => ⟨S i, T i, M i, Z i, A i, L i, C i⟩))) (fun _ x _ => n - (intOf x).toNat)
  case atStart => exact ⟨0, Nat.zero_le _, rfl, rfl, hb0, y0⟩
  case round =>
    obtain ⟨k, hk, rfl, rfl, HR⟩ := hrel
    clear y0 hb0
    by_cases hlt : k < n
    · have keep : ∀ W : World, Below w.heap.size w W → (W.cell? ⟨g0, k, none⟩ = some (.int .i64 (S k)) ∧ W.cell? ⟨g1, k, none⟩ = some (.int .u32 (T k)) ∧ W.cell? ⟨g2, k, none⟩ = some (.bool (M k)) ∧ W.cell? ⟨g3, k, none⟩ = some (.int .i64 (Z k)) ∧ W.cell? ⟨g4, k, none⟩ = some (.slice (A k) (L k) (C k))) :=
        fun W hW => ⟨(k0.below hW k0.lt).cell (by omega), (k1.below hW k1.lt).cell (by omega), (k2.below hW k2.lt).cell (by omega), (k3.below hW k3.lt).cell (by omega), (k4.below hW k4.lt).cell (by omega)⟩
      have KEEP : Hid (_) := keep
      clear keep
      have hbr := HR.out.1
      have ybr := HR.out.2
      have z0 : (k : Int) < (l0 : Int) := by omega
      have z1 : (k : Int) < (l1 : Int) := by omega
      have z2 : (k : Int) < (l2 : Int) := by omega
      have z3 : (k : Int) < (l3 : Int) := by omega
      have z4 : (k : Int) < (l4 : Int) := by omega
      have hroom : k + 1 ≤ n := hlt
      go_upto_region 5 with fail
      go_region_held3 (fun W => W.cell? ⟨g0, k, none⟩ = some (.int .i64 (S k)) ∧ W.cell? ⟨g1, k, none⟩ = some (.int .u32 (T k)) ∧ W.cell? ⟨g2, k, none⟩ = some (.bool (M k)) ∧ W.cell? ⟨g3, k, none⟩ = some (.int .i64 (Z k)) ∧ W.cell? ⟨g4, k, none⟩ = some (.slice (A k) (L k) (C k)))
        ((refine KEEP.out _ ?_; first | with_reducible exact hb3 | with_reducible exact hbr.drew | with_reducible exact Below.alloc hb3 hsz2 _ | with_reducible exact below_setCells (Below.alloc hb3 hsz2 _) (Nat.le_refl _) _ _))
        (first
          | (go_at_call 22; refine (make_any _ _ _ _ _ _ _ _).mono ?_; rintro e w2 ⟨rfl, hb2⟩; have hb3 : Below w.heap.size w w2 := hbr.drew.trans (hb2.mono hbr.size); have ybr2 := BlkTo.below (w := wr.drew) ybr hb2 ybr.lt; have hsz2 := hb3.size)
          | (refine step_append_room rfl (.tmp 22) (.tmp 44) 43 rfl 46 i 5 Try.underlying43 hi hz1 w.heap.size 0 k n rfl ⟨w2.heap.size, 0, none⟩ 1 1 (Pk.cs ⟨S k, T k, M k, Z k, A k, L k, C k⟩) rfl rfl (news_alloc w2 ⟨S k, T k, M k, Z k, A k, L k, C k⟩) (cs_one _) hroom (spare_of (BlkTo.alloc ybr2 _) hlt) ?_))
      go_wp2
      go_roundw
      case rel =>
        refine ⟨k + 1, by omega, by go_num, rfl, below_setCells (hb3.alloc hsz2 _) (Nat.le_refl _) _ _, ?_⟩
        rw [Nat.mul_comm k 5]
        exact BlkTo.pack (BlkTo.alloc ybr2 _) hlt rfl (fun _ _ => rfl)
      case measure => simp [intOf]; omega
    · go_wp2
      go_ret
      have e : k = n := by omega
      subst e
      exact ⟨rfl, HR.out.1, HR.out.2⟩

set_option maxHeartbeats 400000 in
/-- No packet: an empty heap. -/
theorem build_zero (v0 v1 v2 v3 v4 : Value) (w : World) :
    Calls Try.prog 20 #[v0, v1, v2, v3, v4, .int .i64 0] w fun e w' => e = .returned (.slice (some ⟨w.heap.size, 0, none⟩) 0 0) ∧ Below w.heap.size w w' ∧ ∀ f, BlkTo w' 46 w.heap.size (5 * 0) (5 * 0) f := by
  obtain ⟨i, hi, hz0, hz1, hz2⟩ := info_parts Try.info46
  go_enter Try.func20, Try.ntmps20
  go_wp2_with (at_make; refine wpList_make_own _ rfl _ _ 43 rfl w.heap.size 46 i _ 5 Try.underlying43 hi hz0 hz1 _ _ _ 0 rfl rfl rfl (by rw [hz2]; omega) (by unfold maxLen; omega) (Nat.le_refl _) ?_)
  intro w1 hown hgrow
  have y0 : ∀ f, BlkTo w1 46 w.heap.size (5 * 0) (5 * 0) f := fun f => BlkTo.of_own5 hown
  have hb0 : Below w.heap.size w w1 := (Below.refl _ _).grown hgrow (Nat.le_refl _) (fun k hk => by cases hk)
  clear hown hgrow
  go_wp2
  go_loop [13, 14] (fun h x => h = .slice (some ⟨w.heap.size, 0, none⟩) 0 0 ∧ x = .int .i64 0) (fun _ _ => 0)
  case atStart => exact ⟨rfl, rfl⟩
  case round =>
    obtain ⟨rfl, rfl⟩ := hrel
    go_wp2
    go_ret
    exact ⟨rfl, hb0, y0⟩

end Go.Proofs.Qxb6605570a
