import Derived.Test.Qxb6605570aHp
namespace Go.Proofs.Qxb6605570a
open Go.RowKit

/-- A packet's cells in the heap's block. -/
theorem BlkTo.pk {w : World} {g N k : Nat} {f : Nat → Pk} (h : BlkTo w 46 g (5 * N) (5 * k) (hc f)) {i : Nat} (hi : i < k) :
    w.cell? ⟨g, i * 5, none⟩ = some (.int .i64 (f i).seq) ∧ w.cell? ⟨g, i * 5 + 1, none⟩ = some (.int .u32 (f i).ts) ∧ w.cell? ⟨g, i * 5 + 2, none⟩ = some (.bool (f i).mkr) ∧ w.cell? ⟨g, i * 5 + 3, none⟩ = some (.int .i64 (f i).sz) ∧ w.cell? ⟨g, i * 5 + 4, none⟩ = some (.slice (f i).pa (f i).pl (f i).pc) := by
  rw [Nat.mul_comm i 5]
  refine ⟨?_, ?_, ?_, ?_, ?_⟩
  · rw [h.cell (show 5 * i < 5 * k by omega)]; exact congrArg some (hc_at f i 0 (by omega))
  · rw [h.cell (show 5 * i + 1 < 5 * k by omega)]; exact congrArg some (hc_at f i 1 (by omega))
  · rw [h.cell (show 5 * i + 2 < 5 * k by omega)]; exact congrArg some (hc_at f i 2 (by omega))
  · rw [h.cell (show 5 * i + 3 < 5 * k by omega)]; exact congrArg some (hc_at f i 3 (by omega))
  · rw [h.cell (show 5 * i + 4 < 5 * k by omega)]; exact congrArg some (hc_at f i 4 (by omega))

theorem wrap_id {x : Int} (h1 : -9223372036854775808 ≤ x) (h2 : x ≤ 9223372036854775807) : IntKind.i64.wrap x = x := by
  have := wrap_i64_ediv x 1 h1 h2 (by omega)
  rwa [Int.ediv_one] at this
def ordB (f : Nat → Pk) (n : Nat) : Bool := decide (∀ i, i < n → 1 ≤ i → (f ((i - 1) / 2)).seq ≤ (f i).seq)

set_option maxHeartbeats 400000 in
theorem ordered_any (g N n : Nat) (f : Nat → Pk) (w : World) (hn : n ≤ 4097) (y : BlkTo w 46 g (5 * N) (5 * n) (hc f)) (cap : Nat) :
    Calls Try.prog 24 #[.slice (some ⟨g, 0, none⟩) n cap] w fun e w' => e = .returned (.bool (ordB f n)) ∧ Below w.heap.size w w' := by
  go_enter Try.func24, Try.ntmps24
  go_wp2
  go_loopw [3] (fun x wr => ∃ k : Nat, 1 ≤ k ∧ x = .int .i64 k ∧ Hid (Below w.heap.size w wr ∧ ∀ i, i < k → 1 ≤ i → (f ((i - 1) / 2)).seq ≤ (f i).seq)) (fun x _ => n - (intOf x).toNat)
  case atStart => exact ⟨1, Nat.le_refl _, rfl, Below.refl _ _, fun i h1 h2 => by omega⟩
  case round =>
    obtain ⟨k, hk, rfl, HR⟩ := hrel
    by_cases hlt : k < n
    · have hbr := HR.out.1
      have yr := y.below hbr y.lt
      obtain ⟨u, hu⟩ : ∃ u, (k - 1) / 2 = u := ⟨_, rfl⟩
      have hul : u < n := by omega
      have eu : ((k : Int) - 1) / 2 = (u : Int) := by omega
      have HU : Hid (_) := hu
      clear hu
      have keep : ∀ W : World, Below w.heap.size w W → ((W.cell? ⟨g, k * 5, none⟩ = some (.int .i64 (f k).seq) ∧ W.cell? ⟨g, k * 5 + 1, none⟩ = some (.int .u32 (f k).ts) ∧ W.cell? ⟨g, k * 5 + 2, none⟩ = some (.bool (f k).mkr) ∧ W.cell? ⟨g, k * 5 + 3, none⟩ = some (.int .i64 (f k).sz) ∧ W.cell? ⟨g, k * 5 + 4, none⟩ = some (.slice (f k).pa (f k).pl (f k).pc)) ∧
          (W.cell? ⟨g, u * 5, none⟩ = some (.int .i64 (f u).seq) ∧ W.cell? ⟨g, u * 5 + 1, none⟩ = some (.int .u32 (f u).ts) ∧ W.cell? ⟨g, u * 5 + 2, none⟩ = some (.bool (f u).mkr) ∧ W.cell? ⟨g, u * 5 + 3, none⟩ = some (.int .i64 (f u).sz) ∧ W.cell? ⟨g, u * 5 + 4, none⟩ = some (.slice (f u).pa (f u).pl (f u).pc))) :=
        fun W hW => ⟨(y.below hW y.lt).pk hlt, (y.below hW y.lt).pk hul⟩
      have z1 : (k : Int) < (n : Int) := by omega
      have z2 : (u : Int) < (n : Int) := by omega
      have q1 : IntKind.i64.wrap ((k : Int) - 1) = (k : Int) - 1 := wrap_id (by omega) (by omega)
      have q2 : ((k : Int) - 1).tdiv 2 = (u : Int) := by rw [Int.tdiv_eq_ediv_of_nonneg (by omega)]; exact eu
      have q3 : IntKind.i64.wrap (u : Int) = (u : Int) := wrap_id (by omega) (by omega)
      clear eu
      go_upto_region 4 with fail
      have KEEP : Hid (_) := keep
      clear keep
      go_region_held3 (fun W => ((W.cell? ⟨g, k * 5, none⟩ = some (.int .i64 (f k).seq) ∧ W.cell? ⟨g, k * 5 + 1, none⟩ = some (.int .u32 (f k).ts) ∧ W.cell? ⟨g, k * 5 + 2, none⟩ = some (.bool (f k).mkr) ∧ W.cell? ⟨g, k * 5 + 3, none⟩ = some (.int .i64 (f k).sz) ∧ W.cell? ⟨g, k * 5 + 4, none⟩ = some (.slice (f k).pa (f k).pl (f k).pc)) ∧ (W.cell? ⟨g, u * 5, none⟩ = some (.int .i64 (f u).seq) ∧ W.cell? ⟨g, u * 5 + 1, none⟩ = some (.int .u32 (f u).ts) ∧ W.cell? ⟨g, u * 5 + 2, none⟩ = some (.bool (f u).mkr) ∧ W.cell? ⟨g, u * 5 + 3, none⟩ = some (.int .i64 (f u).sz) ∧ W.cell? ⟨g, u * 5 + 4, none⟩ = some (.slice (f u).pa (f u).pl (f u).pc))))
        ((refine KEEP.out _ ?_; first | with_reducible exact hb9 | with_reducible exact hb8 | with_reducible exact hbr.drew))
        (first
          | (go_at_call 28; refine (seqOf_any _ _ _ _ _ _ _ _).mono ?_; rintro e w8 ⟨rfl, hb2⟩; first | (have hb9 : Below w.heap.size w w8 := hb8.trans (hb2.mono hb8.size)) | (have hb8 : Below w.heap.size w w8 := hbr.drew.trans (hb2.mono hbr.size))))
      go_wp2
      · have hq : (f k).seq < (f u).seq := by assumption
        go_ret
        refine ⟨ret_bool (decide_eq_false fun h => ?_).symm, hb9⟩
        have := h k hlt hk
        rw [HU.out] at this; omega
      · have hq : (f u).seq ≤ (f k).seq := by assumption
        go_roundw
        case rel =>
          refine ⟨k + 1, by omega, by go_num, hb9, ?_⟩
          intro i h1 h2
          by_cases e : i = k
          · subst e; rw [HU.out]; exact hq
          · exact HR.out.2 i (by omega) h2
        case measure => simp [intOf]; omega
    · go_wp2
      go_ret
      exact ⟨ret_bool (decide_eq_true fun i h2 h1 => HR.out.2 i (by omega) h1).symm, HR.out.1⟩

end Go.Proofs.Qxb6605570a
