import Derived.Test.Qxb6605570aBase
import Derived.Deep.QuietTactic
import Derived.BigQuiet
namespace Go.Proofs.Qxb6605570a
open Go.RowKit

def fitsB (n bytes ts last : Int) (lm : Bool) (seq pts : Int) (mk : Bool) (size fr limit : Int) : Bool :=
  decide (bytes + size ≤ limit) && (decide (n = 0) || (decide (pts = ts) && !(mk && decide (seq < last)) && !(lm && decide (last < seq)) && decide (max seq last - fr < 16384)))

set_option maxHeartbeats 400000 in
theorem fits_over (fb : Nat) (n bytes ts last : Int) (lm : Bool) (seq pts : Int) (mk : Bool) (size fr limit : Int) (w : World) (_hfb : fb < w.heap.size)
    (_c0 : w.cell? ⟨fb, 0, none⟩ = some (.int .i64 n)) (_c1 : w.cell? ⟨fb, 1, none⟩ = some (.int .i64 bytes)) (_c2 : w.cell? ⟨fb, 2, none⟩ = some (.int .u32 ts))
    (_c3 : w.cell? ⟨fb, 3, none⟩ = some (.int .i64 last)) (_c4 : w.cell? ⟨fb, 4, none⟩ = some (.bool lm))
    (_b1 : 0 ≤ bytes) (_b2 : bytes ≤ 4294967296) (_b3 : 0 ≤ size) (_b4 : size ≤ 4294967296)
    (_s1 : -2305843009213693952 ≤ seq) (_s2 : seq ≤ 2305843009213693952) (_l1 : -2305843009213693952 ≤ last) (_l2 : last ≤ 2305843009213693952) (_f1 : -2305843009213693952 ≤ fr) (_f2 : fr ≤ 2305843009213693952) (_h : limit < bytes + size) :
    Calls Try.prog 29 #[.pointer (some ⟨fb, 0, none⟩), .agg #[.int .i64 seq, .int .u32 pts, .bool mk, .int .i64 size, .slice none 0 0], .int .i64 fr, .int .i64 limit] w fun e w' => e = .returned (.bool false) ∧ Below w.heap.size w w' := by
  go_enter Try.func29, Try.ntmps29
  go_wp2
  go_quiet (fail)
  go_wp2
  go_ret
  exact ⟨rfl, by repeat (first | exact Below.refl _ _ | refine below_drewN ?_ _ | refine Below.alloc ?_ (Nat.le_refl _) _)⟩

set_option maxHeartbeats 400000 in
theorem fits_zero (fb : Nat) (n bytes ts last : Int) (lm : Bool) (seq pts : Int) (mk : Bool) (size fr limit : Int) (w : World) (_hfb : fb < w.heap.size)
    (_c0 : w.cell? ⟨fb, 0, none⟩ = some (.int .i64 n)) (_c1 : w.cell? ⟨fb, 1, none⟩ = some (.int .i64 bytes)) (_c2 : w.cell? ⟨fb, 2, none⟩ = some (.int .u32 ts))
    (_c3 : w.cell? ⟨fb, 3, none⟩ = some (.int .i64 last)) (_c4 : w.cell? ⟨fb, 4, none⟩ = some (.bool lm))
    (_b1 : 0 ≤ bytes) (_b2 : bytes ≤ 4294967296) (_b3 : 0 ≤ size) (_b4 : size ≤ 4294967296)
    (_s1 : -2305843009213693952 ≤ seq) (_s2 : seq ≤ 2305843009213693952) (_l1 : -2305843009213693952 ≤ last) (_l2 : last ≤ 2305843009213693952) (_f1 : -2305843009213693952 ≤ fr) (_f2 : fr ≤ 2305843009213693952) (_h : decide (limit < bytes + size) = false) (_hn : (n == 0) = true) :
    Calls Try.prog 29 #[.pointer (some ⟨fb, 0, none⟩), .agg #[.int .i64 seq, .int .u32 pts, .bool mk, .int .i64 size, .slice none 0 0], .int .i64 fr, .int .i64 limit] w fun e w' => e = .returned (.bool true) ∧ Below w.heap.size w w' := by
  go_enter Try.func29, Try.ntmps29
  go_wp2
  go_quiet (fail)
  go_wp2
  go_ret
  exact ⟨rfl, by repeat (first | exact Below.refl _ _ | refine below_drewN ?_ _ | refine Below.alloc ?_ (Nat.le_refl _) _)⟩

set_option maxHeartbeats 400000 in
theorem fits_ett (fb : Nat) (n bytes ts last : Int) (seq pts : Int) (size fr limit : Int) (w : World) (_hfb : fb < w.heap.size)
    (_c0 : w.cell? ⟨fb, 0, none⟩ = some (.int .i64 n)) (_c1 : w.cell? ⟨fb, 1, none⟩ = some (.int .i64 bytes)) (_c2 : w.cell? ⟨fb, 2, none⟩ = some (.int .u32 ts))
    (_c3 : w.cell? ⟨fb, 3, none⟩ = some (.int .i64 last)) (_c4 : w.cell? ⟨fb, 4, none⟩ = some (.bool true))
    (_b1 : 0 ≤ bytes) (_b2 : bytes ≤ 4294967296) (_b3 : 0 ≤ size) (_b4 : size ≤ 4294967296)
    (_s1 : -2305843009213693952 ≤ seq) (_s2 : seq ≤ 2305843009213693952) (_l1 : -2305843009213693952 ≤ last) (_l2 : last ≤ 2305843009213693952) (_f1 : -2305843009213693952 ≤ fr) (_f2 : fr ≤ 2305843009213693952) (_h : decide (limit < bytes + size) = false) (_hn : (n == 0) = false) (_e : (pts == ts) = false) :
    Calls Try.prog 29 #[.pointer (some ⟨fb, 0, none⟩), .agg #[.int .i64 seq, .int .u32 pts, .bool true, .int .i64 size, .slice none 0 0], .int .i64 fr, .int .i64 limit] w fun e w' => e = .returned (.bool false) ∧ Below w.heap.size w w' := by
  go_enter Try.func29, Try.ntmps29
  go_wp2
  go_quiet (fail)
  go_wp2
  go_quiet (fail)
  go_wp2
  go_quiet (fail)
  go_wp2
  go_ret
  exact ⟨rfl, by repeat (first | exact Below.refl _ _ | refine below_drewN ?_ _ | refine Below.alloc ?_ (Nat.le_refl _) _)⟩

set_option maxHeartbeats 400000 in
theorem fits_ttl (fb : Nat) (n bytes ts last : Int) (seq pts : Int) (size fr limit : Int) (w : World) (_hfb : fb < w.heap.size)
    (_c0 : w.cell? ⟨fb, 0, none⟩ = some (.int .i64 n)) (_c1 : w.cell? ⟨fb, 1, none⟩ = some (.int .i64 bytes)) (_c2 : w.cell? ⟨fb, 2, none⟩ = some (.int .u32 ts))
    (_c3 : w.cell? ⟨fb, 3, none⟩ = some (.int .i64 last)) (_c4 : w.cell? ⟨fb, 4, none⟩ = some (.bool true))
    (_b1 : 0 ≤ bytes) (_b2 : bytes ≤ 4294967296) (_b3 : 0 ≤ size) (_b4 : size ≤ 4294967296)
    (_s1 : -2305843009213693952 ≤ seq) (_s2 : seq ≤ 2305843009213693952) (_l1 : -2305843009213693952 ≤ last) (_l2 : last ≤ 2305843009213693952) (_f1 : -2305843009213693952 ≤ fr) (_f2 : fr ≤ 2305843009213693952) (_h : decide (limit < bytes + size) = false) (_hn : (n == 0) = false) (_e : (pts == ts) = true) (_a : seq < last) (_b : decide (last < seq) = false)  :
    Calls Try.prog 29 #[.pointer (some ⟨fb, 0, none⟩), .agg #[.int .i64 seq, .int .u32 pts, .bool true, .int .i64 size, .slice none 0 0], .int .i64 fr, .int .i64 limit] w fun e w' => e = .returned (.bool false) ∧ Below w.heap.size w w' := by
  go_enter Try.func29, Try.ntmps29
  go_wp2
  go_quiet (fail)
  go_wp2
  go_quiet (fail)
  go_wp2
  go_quiet (fail)
  go_wp2
  go_ret
  exact ⟨rfl, by repeat (first | exact Below.refl _ _ | refine below_drewN ?_ _ | refine Below.alloc ?_ (Nat.le_refl _) _)⟩

set_option maxHeartbeats 400000 in
theorem fits_ttg (fb : Nat) (n bytes ts last : Int) (seq pts : Int) (size fr limit : Int) (w : World) (_hfb : fb < w.heap.size)
    (_c0 : w.cell? ⟨fb, 0, none⟩ = some (.int .i64 n)) (_c1 : w.cell? ⟨fb, 1, none⟩ = some (.int .i64 bytes)) (_c2 : w.cell? ⟨fb, 2, none⟩ = some (.int .u32 ts))
    (_c3 : w.cell? ⟨fb, 3, none⟩ = some (.int .i64 last)) (_c4 : w.cell? ⟨fb, 4, none⟩ = some (.bool true))
    (_b1 : 0 ≤ bytes) (_b2 : bytes ≤ 4294967296) (_b3 : 0 ≤ size) (_b4 : size ≤ 4294967296)
    (_s1 : -2305843009213693952 ≤ seq) (_s2 : seq ≤ 2305843009213693952) (_l1 : -2305843009213693952 ≤ last) (_l2 : last ≤ 2305843009213693952) (_f1 : -2305843009213693952 ≤ fr) (_f2 : fr ≤ 2305843009213693952) (_h : decide (limit < bytes + size) = false) (_hn : (n == 0) = false) (_e : (pts == ts) = true) (_a : decide (seq < last) = false) (_b : last < seq)  :
    Calls Try.prog 29 #[.pointer (some ⟨fb, 0, none⟩), .agg #[.int .i64 seq, .int .u32 pts, .bool true, .int .i64 size, .slice none 0 0], .int .i64 fr, .int .i64 limit] w fun e w' => e = .returned (.bool false) ∧ Below w.heap.size w w' := by
  go_enter Try.func29, Try.ntmps29
  go_wp2
  go_quiet (fail)
  go_wp2
  go_quiet (fail)
  go_wp2
  go_quiet (fail)
  go_wp2
  go_ret
  exact ⟨rfl, by repeat (first | exact Below.refl _ _ | refine below_drewN ?_ _ | refine Below.alloc ?_ (Nat.le_refl _) _)⟩

set_option maxHeartbeats 400000 in
theorem fits_ttq (fb : Nat) (n bytes ts last : Int) (pts : Int) (size fr limit : Int) (w : World) (_hfb : fb < w.heap.size)
    (_c0 : w.cell? ⟨fb, 0, none⟩ = some (.int .i64 n)) (_c1 : w.cell? ⟨fb, 1, none⟩ = some (.int .i64 bytes)) (_c2 : w.cell? ⟨fb, 2, none⟩ = some (.int .u32 ts))
    (_c3 : w.cell? ⟨fb, 3, none⟩ = some (.int .i64 last)) (_c4 : w.cell? ⟨fb, 4, none⟩ = some (.bool true))
    (_b1 : 0 ≤ bytes) (_b2 : bytes ≤ 4294967296) (_b3 : 0 ≤ size) (_b4 : size ≤ 4294967296)
    (_l1 : -2305843009213693952 ≤ last) (_l2 : last ≤ 2305843009213693952) (_f1 : -2305843009213693952 ≤ fr) (_f2 : fr ≤ 2305843009213693952) (_h : decide (limit < bytes + size) = false) (_hn : (n == 0) = false) (_e : (pts == ts) = true)  :
    Calls Try.prog 29 #[.pointer (some ⟨fb, 0, none⟩), .agg #[.int .i64 last, .int .u32 pts, .bool true, .int .i64 size, .slice none 0 0], .int .i64 fr, .int .i64 limit] w fun e w' => e = .returned (.bool (decide (last - fr < 16384))) ∧ Below w.heap.size w w' := by
  go_enter Try.func29, Try.ntmps29
  go_wp2
  go_quiet (fail)
  go_wp2
  go_quiet (fail)
  go_wp2
  go_quiet (fail)
  go_wp2
  go_ret
  exact ⟨rfl, by repeat (first | exact Below.refl _ _ | refine below_drewN ?_ _ | refine Below.alloc ?_ (Nat.le_refl _) _)⟩

set_option maxHeartbeats 400000 in
theorem fits_etf (fb : Nat) (n bytes ts last : Int) (seq pts : Int) (size fr limit : Int) (w : World) (_hfb : fb < w.heap.size)
    (_c0 : w.cell? ⟨fb, 0, none⟩ = some (.int .i64 n)) (_c1 : w.cell? ⟨fb, 1, none⟩ = some (.int .i64 bytes)) (_c2 : w.cell? ⟨fb, 2, none⟩ = some (.int .u32 ts))
    (_c3 : w.cell? ⟨fb, 3, none⟩ = some (.int .i64 last)) (_c4 : w.cell? ⟨fb, 4, none⟩ = some (.bool true))
    (_b1 : 0 ≤ bytes) (_b2 : bytes ≤ 4294967296) (_b3 : 0 ≤ size) (_b4 : size ≤ 4294967296)
    (_s1 : -2305843009213693952 ≤ seq) (_s2 : seq ≤ 2305843009213693952) (_l1 : -2305843009213693952 ≤ last) (_l2 : last ≤ 2305843009213693952) (_f1 : -2305843009213693952 ≤ fr) (_f2 : fr ≤ 2305843009213693952) (_h : decide (limit < bytes + size) = false) (_hn : (n == 0) = false) (_e : (pts == ts) = false) :
    Calls Try.prog 29 #[.pointer (some ⟨fb, 0, none⟩), .agg #[.int .i64 seq, .int .u32 pts, .bool false, .int .i64 size, .slice none 0 0], .int .i64 fr, .int .i64 limit] w fun e w' => e = .returned (.bool false) ∧ Below w.heap.size w w' := by
  go_enter Try.func29, Try.ntmps29
  go_wp2
  go_quiet (fail)
  go_wp2
  go_quiet (fail)
  go_wp2
  go_quiet (fail)
  go_wp2
  go_ret
  exact ⟨rfl, by repeat (first | exact Below.refl _ _ | refine below_drewN ?_ _ | refine Below.alloc ?_ (Nat.le_refl _) _)⟩

set_option maxHeartbeats 400000 in
theorem fits_tfl (fb : Nat) (n bytes ts last : Int) (seq pts : Int) (size fr limit : Int) (w : World) (_hfb : fb < w.heap.size)
    (_c0 : w.cell? ⟨fb, 0, none⟩ = some (.int .i64 n)) (_c1 : w.cell? ⟨fb, 1, none⟩ = some (.int .i64 bytes)) (_c2 : w.cell? ⟨fb, 2, none⟩ = some (.int .u32 ts))
    (_c3 : w.cell? ⟨fb, 3, none⟩ = some (.int .i64 last)) (_c4 : w.cell? ⟨fb, 4, none⟩ = some (.bool true))
    (_b1 : 0 ≤ bytes) (_b2 : bytes ≤ 4294967296) (_b3 : 0 ≤ size) (_b4 : size ≤ 4294967296)
    (_s1 : -2305843009213693952 ≤ seq) (_s2 : seq ≤ 2305843009213693952) (_l1 : -2305843009213693952 ≤ last) (_l2 : last ≤ 2305843009213693952) (_f1 : -2305843009213693952 ≤ fr) (_f2 : fr ≤ 2305843009213693952) (_h : decide (limit < bytes + size) = false) (_hn : (n == 0) = false) (_e : (pts == ts) = true) (_a : seq < last) (_b : decide (last < seq) = false)  :
    Calls Try.prog 29 #[.pointer (some ⟨fb, 0, none⟩), .agg #[.int .i64 seq, .int .u32 pts, .bool false, .int .i64 size, .slice none 0 0], .int .i64 fr, .int .i64 limit] w fun e w' => e = .returned (.bool (decide (last - fr < 16384))) ∧ Below w.heap.size w w' := by
  go_enter Try.func29, Try.ntmps29
  go_wp2
  go_quiet (fail)
  go_wp2
  go_quiet (fail)
  go_wp2
  go_quiet (fail)
  go_wp2
  go_ret
  exact ⟨rfl, by repeat (first | exact Below.refl _ _ | refine below_drewN ?_ _ | refine Below.alloc ?_ (Nat.le_refl _) _)⟩

set_option maxHeartbeats 400000 in
theorem fits_tfg (fb : Nat) (n bytes ts last : Int) (seq pts : Int) (size fr limit : Int) (w : World) (_hfb : fb < w.heap.size)
    (_c0 : w.cell? ⟨fb, 0, none⟩ = some (.int .i64 n)) (_c1 : w.cell? ⟨fb, 1, none⟩ = some (.int .i64 bytes)) (_c2 : w.cell? ⟨fb, 2, none⟩ = some (.int .u32 ts))
    (_c3 : w.cell? ⟨fb, 3, none⟩ = some (.int .i64 last)) (_c4 : w.cell? ⟨fb, 4, none⟩ = some (.bool true))
    (_b1 : 0 ≤ bytes) (_b2 : bytes ≤ 4294967296) (_b3 : 0 ≤ size) (_b4 : size ≤ 4294967296)
    (_s1 : -2305843009213693952 ≤ seq) (_s2 : seq ≤ 2305843009213693952) (_l1 : -2305843009213693952 ≤ last) (_l2 : last ≤ 2305843009213693952) (_f1 : -2305843009213693952 ≤ fr) (_f2 : fr ≤ 2305843009213693952) (_h : decide (limit < bytes + size) = false) (_hn : (n == 0) = false) (_e : (pts == ts) = true) (_a : decide (seq < last) = false) (_b : last < seq)  :
    Calls Try.prog 29 #[.pointer (some ⟨fb, 0, none⟩), .agg #[.int .i64 seq, .int .u32 pts, .bool false, .int .i64 size, .slice none 0 0], .int .i64 fr, .int .i64 limit] w fun e w' => e = .returned (.bool false) ∧ Below w.heap.size w w' := by
  go_enter Try.func29, Try.ntmps29
  go_wp2
  go_quiet (fail)
  go_wp2
  go_quiet (fail)
  go_wp2
  go_quiet (fail)
  go_wp2
  go_ret
  exact ⟨rfl, by repeat (first | exact Below.refl _ _ | refine below_drewN ?_ _ | refine Below.alloc ?_ (Nat.le_refl _) _)⟩

set_option maxHeartbeats 400000 in
theorem fits_tfq (fb : Nat) (n bytes ts last : Int) (pts : Int) (size fr limit : Int) (w : World) (_hfb : fb < w.heap.size)
    (_c0 : w.cell? ⟨fb, 0, none⟩ = some (.int .i64 n)) (_c1 : w.cell? ⟨fb, 1, none⟩ = some (.int .i64 bytes)) (_c2 : w.cell? ⟨fb, 2, none⟩ = some (.int .u32 ts))
    (_c3 : w.cell? ⟨fb, 3, none⟩ = some (.int .i64 last)) (_c4 : w.cell? ⟨fb, 4, none⟩ = some (.bool true))
    (_b1 : 0 ≤ bytes) (_b2 : bytes ≤ 4294967296) (_b3 : 0 ≤ size) (_b4 : size ≤ 4294967296)
    (_l1 : -2305843009213693952 ≤ last) (_l2 : last ≤ 2305843009213693952) (_f1 : -2305843009213693952 ≤ fr) (_f2 : fr ≤ 2305843009213693952) (_h : decide (limit < bytes + size) = false) (_hn : (n == 0) = false) (_e : (pts == ts) = true)  :
    Calls Try.prog 29 #[.pointer (some ⟨fb, 0, none⟩), .agg #[.int .i64 last, .int .u32 pts, .bool false, .int .i64 size, .slice none 0 0], .int .i64 fr, .int .i64 limit] w fun e w' => e = .returned (.bool (decide (last - fr < 16384))) ∧ Below w.heap.size w w' := by
  go_enter Try.func29, Try.ntmps29
  go_wp2
  go_quiet (fail)
  go_wp2
  go_quiet (fail)
  go_wp2
  go_quiet (fail)
  go_wp2
  go_ret
  exact ⟨rfl, by repeat (first | exact Below.refl _ _ | refine below_drewN ?_ _ | refine Below.alloc ?_ (Nat.le_refl _) _)⟩

set_option maxHeartbeats 400000 in
theorem fits_eft (fb : Nat) (n bytes ts last : Int) (seq pts : Int) (size fr limit : Int) (w : World) (_hfb : fb < w.heap.size)
    (_c0 : w.cell? ⟨fb, 0, none⟩ = some (.int .i64 n)) (_c1 : w.cell? ⟨fb, 1, none⟩ = some (.int .i64 bytes)) (_c2 : w.cell? ⟨fb, 2, none⟩ = some (.int .u32 ts))
    (_c3 : w.cell? ⟨fb, 3, none⟩ = some (.int .i64 last)) (_c4 : w.cell? ⟨fb, 4, none⟩ = some (.bool false))
    (_b1 : 0 ≤ bytes) (_b2 : bytes ≤ 4294967296) (_b3 : 0 ≤ size) (_b4 : size ≤ 4294967296)
    (_s1 : -2305843009213693952 ≤ seq) (_s2 : seq ≤ 2305843009213693952) (_l1 : -2305843009213693952 ≤ last) (_l2 : last ≤ 2305843009213693952) (_f1 : -2305843009213693952 ≤ fr) (_f2 : fr ≤ 2305843009213693952) (_h : decide (limit < bytes + size) = false) (_hn : (n == 0) = false) (_e : (pts == ts) = false) :
    Calls Try.prog 29 #[.pointer (some ⟨fb, 0, none⟩), .agg #[.int .i64 seq, .int .u32 pts, .bool true, .int .i64 size, .slice none 0 0], .int .i64 fr, .int .i64 limit] w fun e w' => e = .returned (.bool false) ∧ Below w.heap.size w w' := by
  go_enter Try.func29, Try.ntmps29
  go_wp2
  go_quiet (fail)
  go_wp2
  go_quiet (fail)
  go_wp2
  go_quiet (fail)
  go_wp2
  go_ret
  exact ⟨rfl, by repeat (first | exact Below.refl _ _ | refine below_drewN ?_ _ | refine Below.alloc ?_ (Nat.le_refl _) _)⟩

set_option maxHeartbeats 400000 in
theorem fits_ftl (fb : Nat) (n bytes ts last : Int) (seq pts : Int) (size fr limit : Int) (w : World) (_hfb : fb < w.heap.size)
    (_c0 : w.cell? ⟨fb, 0, none⟩ = some (.int .i64 n)) (_c1 : w.cell? ⟨fb, 1, none⟩ = some (.int .i64 bytes)) (_c2 : w.cell? ⟨fb, 2, none⟩ = some (.int .u32 ts))
    (_c3 : w.cell? ⟨fb, 3, none⟩ = some (.int .i64 last)) (_c4 : w.cell? ⟨fb, 4, none⟩ = some (.bool false))
    (_b1 : 0 ≤ bytes) (_b2 : bytes ≤ 4294967296) (_b3 : 0 ≤ size) (_b4 : size ≤ 4294967296)
    (_s1 : -2305843009213693952 ≤ seq) (_s2 : seq ≤ 2305843009213693952) (_l1 : -2305843009213693952 ≤ last) (_l2 : last ≤ 2305843009213693952) (_f1 : -2305843009213693952 ≤ fr) (_f2 : fr ≤ 2305843009213693952) (_h : decide (limit < bytes + size) = false) (_hn : (n == 0) = false) (_e : (pts == ts) = true) (_a : seq < last) (_b : decide (last < seq) = false)  :
    Calls Try.prog 29 #[.pointer (some ⟨fb, 0, none⟩), .agg #[.int .i64 seq, .int .u32 pts, .bool true, .int .i64 size, .slice none 0 0], .int .i64 fr, .int .i64 limit] w fun e w' => e = .returned (.bool false) ∧ Below w.heap.size w w' := by
  go_enter Try.func29, Try.ntmps29
  go_wp2
  go_quiet (fail)
  go_wp2
  go_quiet (fail)
  go_wp2
  go_quiet (fail)
  go_wp2
  go_ret
  exact ⟨rfl, by repeat (first | exact Below.refl _ _ | refine below_drewN ?_ _ | refine Below.alloc ?_ (Nat.le_refl _) _)⟩

set_option maxHeartbeats 400000 in
theorem fits_ftg (fb : Nat) (n bytes ts last : Int) (seq pts : Int) (size fr limit : Int) (w : World) (_hfb : fb < w.heap.size)
    (_c0 : w.cell? ⟨fb, 0, none⟩ = some (.int .i64 n)) (_c1 : w.cell? ⟨fb, 1, none⟩ = some (.int .i64 bytes)) (_c2 : w.cell? ⟨fb, 2, none⟩ = some (.int .u32 ts))
    (_c3 : w.cell? ⟨fb, 3, none⟩ = some (.int .i64 last)) (_c4 : w.cell? ⟨fb, 4, none⟩ = some (.bool false))
    (_b1 : 0 ≤ bytes) (_b2 : bytes ≤ 4294967296) (_b3 : 0 ≤ size) (_b4 : size ≤ 4294967296)
    (_s1 : -2305843009213693952 ≤ seq) (_s2 : seq ≤ 2305843009213693952) (_l1 : -2305843009213693952 ≤ last) (_l2 : last ≤ 2305843009213693952) (_f1 : -2305843009213693952 ≤ fr) (_f2 : fr ≤ 2305843009213693952) (_h : decide (limit < bytes + size) = false) (_hn : (n == 0) = false) (_e : (pts == ts) = true) (_a : decide (seq < last) = false) (_b : last < seq)  :
    Calls Try.prog 29 #[.pointer (some ⟨fb, 0, none⟩), .agg #[.int .i64 seq, .int .u32 pts, .bool true, .int .i64 size, .slice none 0 0], .int .i64 fr, .int .i64 limit] w fun e w' => e = .returned (.bool (decide (seq - fr < 16384))) ∧ Below w.heap.size w w' := by
  go_enter Try.func29, Try.ntmps29
  go_wp2
  go_quiet (fail)
  go_wp2
  go_quiet (fail)
  go_wp2
  go_quiet (fail)
  go_wp2
  go_ret
  exact ⟨rfl, by repeat (first | exact Below.refl _ _ | refine below_drewN ?_ _ | refine Below.alloc ?_ (Nat.le_refl _) _)⟩

set_option maxHeartbeats 400000 in
theorem fits_ftq (fb : Nat) (n bytes ts last : Int) (pts : Int) (size fr limit : Int) (w : World) (_hfb : fb < w.heap.size)
    (_c0 : w.cell? ⟨fb, 0, none⟩ = some (.int .i64 n)) (_c1 : w.cell? ⟨fb, 1, none⟩ = some (.int .i64 bytes)) (_c2 : w.cell? ⟨fb, 2, none⟩ = some (.int .u32 ts))
    (_c3 : w.cell? ⟨fb, 3, none⟩ = some (.int .i64 last)) (_c4 : w.cell? ⟨fb, 4, none⟩ = some (.bool false))
    (_b1 : 0 ≤ bytes) (_b2 : bytes ≤ 4294967296) (_b3 : 0 ≤ size) (_b4 : size ≤ 4294967296)
    (_l1 : -2305843009213693952 ≤ last) (_l2 : last ≤ 2305843009213693952) (_f1 : -2305843009213693952 ≤ fr) (_f2 : fr ≤ 2305843009213693952) (_h : decide (limit < bytes + size) = false) (_hn : (n == 0) = false) (_e : (pts == ts) = true)  :
    Calls Try.prog 29 #[.pointer (some ⟨fb, 0, none⟩), .agg #[.int .i64 last, .int .u32 pts, .bool true, .int .i64 size, .slice none 0 0], .int .i64 fr, .int .i64 limit] w fun e w' => e = .returned (.bool (decide (last - fr < 16384))) ∧ Below w.heap.size w w' := by
  go_enter Try.func29, Try.ntmps29
  go_wp2
  go_quiet (fail)
  go_wp2
  go_quiet (fail)
  go_wp2
  go_quiet (fail)
  go_wp2
  go_ret
  exact ⟨rfl, by repeat (first | exact Below.refl _ _ | refine below_drewN ?_ _ | refine Below.alloc ?_ (Nat.le_refl _) _)⟩

set_option maxHeartbeats 400000 in
theorem fits_eff (fb : Nat) (n bytes ts last : Int) (seq pts : Int) (size fr limit : Int) (w : World) (_hfb : fb < w.heap.size)
    (_c0 : w.cell? ⟨fb, 0, none⟩ = some (.int .i64 n)) (_c1 : w.cell? ⟨fb, 1, none⟩ = some (.int .i64 bytes)) (_c2 : w.cell? ⟨fb, 2, none⟩ = some (.int .u32 ts))
    (_c3 : w.cell? ⟨fb, 3, none⟩ = some (.int .i64 last)) (_c4 : w.cell? ⟨fb, 4, none⟩ = some (.bool false))
    (_b1 : 0 ≤ bytes) (_b2 : bytes ≤ 4294967296) (_b3 : 0 ≤ size) (_b4 : size ≤ 4294967296)
    (_s1 : -2305843009213693952 ≤ seq) (_s2 : seq ≤ 2305843009213693952) (_l1 : -2305843009213693952 ≤ last) (_l2 : last ≤ 2305843009213693952) (_f1 : -2305843009213693952 ≤ fr) (_f2 : fr ≤ 2305843009213693952) (_h : decide (limit < bytes + size) = false) (_hn : (n == 0) = false) (_e : (pts == ts) = false) :
    Calls Try.prog 29 #[.pointer (some ⟨fb, 0, none⟩), .agg #[.int .i64 seq, .int .u32 pts, .bool false, .int .i64 size, .slice none 0 0], .int .i64 fr, .int .i64 limit] w fun e w' => e = .returned (.bool false) ∧ Below w.heap.size w w' := by
  go_enter Try.func29, Try.ntmps29
  go_wp2
  go_quiet (fail)
  go_wp2
  go_quiet (fail)
  go_wp2
  go_quiet (fail)
  go_wp2
  go_ret
  exact ⟨rfl, by repeat (first | exact Below.refl _ _ | refine below_drewN ?_ _ | refine Below.alloc ?_ (Nat.le_refl _) _)⟩

set_option maxHeartbeats 400000 in
theorem fits_ffl (fb : Nat) (n bytes ts last : Int) (seq pts : Int) (size fr limit : Int) (w : World) (_hfb : fb < w.heap.size)
    (_c0 : w.cell? ⟨fb, 0, none⟩ = some (.int .i64 n)) (_c1 : w.cell? ⟨fb, 1, none⟩ = some (.int .i64 bytes)) (_c2 : w.cell? ⟨fb, 2, none⟩ = some (.int .u32 ts))
    (_c3 : w.cell? ⟨fb, 3, none⟩ = some (.int .i64 last)) (_c4 : w.cell? ⟨fb, 4, none⟩ = some (.bool false))
    (_b1 : 0 ≤ bytes) (_b2 : bytes ≤ 4294967296) (_b3 : 0 ≤ size) (_b4 : size ≤ 4294967296)
    (_s1 : -2305843009213693952 ≤ seq) (_s2 : seq ≤ 2305843009213693952) (_l1 : -2305843009213693952 ≤ last) (_l2 : last ≤ 2305843009213693952) (_f1 : -2305843009213693952 ≤ fr) (_f2 : fr ≤ 2305843009213693952) (_h : decide (limit < bytes + size) = false) (_hn : (n == 0) = false) (_e : (pts == ts) = true) (_a : seq < last) (_b : decide (last < seq) = false)  :
    Calls Try.prog 29 #[.pointer (some ⟨fb, 0, none⟩), .agg #[.int .i64 seq, .int .u32 pts, .bool false, .int .i64 size, .slice none 0 0], .int .i64 fr, .int .i64 limit] w fun e w' => e = .returned (.bool (decide (last - fr < 16384))) ∧ Below w.heap.size w w' := by
  go_enter Try.func29, Try.ntmps29
  go_wp2
  go_quiet (fail)
  go_wp2
  go_quiet (fail)
  go_wp2
  go_quiet (fail)
  go_wp2
  go_ret
  exact ⟨rfl, by repeat (first | exact Below.refl _ _ | refine below_drewN ?_ _ | refine Below.alloc ?_ (Nat.le_refl _) _)⟩

set_option maxHeartbeats 400000 in
theorem fits_ffg (fb : Nat) (n bytes ts last : Int) (seq pts : Int) (size fr limit : Int) (w : World) (_hfb : fb < w.heap.size)
    (_c0 : w.cell? ⟨fb, 0, none⟩ = some (.int .i64 n)) (_c1 : w.cell? ⟨fb, 1, none⟩ = some (.int .i64 bytes)) (_c2 : w.cell? ⟨fb, 2, none⟩ = some (.int .u32 ts))
    (_c3 : w.cell? ⟨fb, 3, none⟩ = some (.int .i64 last)) (_c4 : w.cell? ⟨fb, 4, none⟩ = some (.bool false))
    (_b1 : 0 ≤ bytes) (_b2 : bytes ≤ 4294967296) (_b3 : 0 ≤ size) (_b4 : size ≤ 4294967296)
    (_s1 : -2305843009213693952 ≤ seq) (_s2 : seq ≤ 2305843009213693952) (_l1 : -2305843009213693952 ≤ last) (_l2 : last ≤ 2305843009213693952) (_f1 : -2305843009213693952 ≤ fr) (_f2 : fr ≤ 2305843009213693952) (_h : decide (limit < bytes + size) = false) (_hn : (n == 0) = false) (_e : (pts == ts) = true) (_a : decide (seq < last) = false) (_b : last < seq)  :
    Calls Try.prog 29 #[.pointer (some ⟨fb, 0, none⟩), .agg #[.int .i64 seq, .int .u32 pts, .bool false, .int .i64 size, .slice none 0 0], .int .i64 fr, .int .i64 limit] w fun e w' => e = .returned (.bool (decide (seq - fr < 16384))) ∧ Below w.heap.size w w' := by
  go_enter Try.func29, Try.ntmps29
  go_wp2
  go_quiet (fail)
  go_wp2
  go_quiet (fail)
  go_wp2
  go_quiet (fail)
  go_wp2
  go_ret
  exact ⟨rfl, by repeat (first | exact Below.refl _ _ | refine below_drewN ?_ _ | refine Below.alloc ?_ (Nat.le_refl _) _)⟩

set_option maxHeartbeats 400000 in
theorem fits_ffq (fb : Nat) (n bytes ts last : Int) (pts : Int) (size fr limit : Int) (w : World) (_hfb : fb < w.heap.size)
    (_c0 : w.cell? ⟨fb, 0, none⟩ = some (.int .i64 n)) (_c1 : w.cell? ⟨fb, 1, none⟩ = some (.int .i64 bytes)) (_c2 : w.cell? ⟨fb, 2, none⟩ = some (.int .u32 ts))
    (_c3 : w.cell? ⟨fb, 3, none⟩ = some (.int .i64 last)) (_c4 : w.cell? ⟨fb, 4, none⟩ = some (.bool false))
    (_b1 : 0 ≤ bytes) (_b2 : bytes ≤ 4294967296) (_b3 : 0 ≤ size) (_b4 : size ≤ 4294967296)
    (_l1 : -2305843009213693952 ≤ last) (_l2 : last ≤ 2305843009213693952) (_f1 : -2305843009213693952 ≤ fr) (_f2 : fr ≤ 2305843009213693952) (_h : decide (limit < bytes + size) = false) (_hn : (n == 0) = false) (_e : (pts == ts) = true)  :
    Calls Try.prog 29 #[.pointer (some ⟨fb, 0, none⟩), .agg #[.int .i64 last, .int .u32 pts, .bool false, .int .i64 size, .slice none 0 0], .int .i64 fr, .int .i64 limit] w fun e w' => e = .returned (.bool (decide (last - fr < 16384))) ∧ Below w.heap.size w w' := by
  go_enter Try.func29, Try.ntmps29
  go_wp2
  go_quiet (fail)
  go_wp2
  go_quiet (fail)
  go_wp2
  go_quiet (fail)
  go_wp2
  go_ret
  exact ⟨rfl, by repeat (first | exact Below.refl _ _ | refine below_drewN ?_ _ | refine Below.alloc ?_ (Nat.le_refl _) _)⟩

theorem fits_any (fb : Nat) (n bytes ts last : Int) (lm : Bool) (seq pts : Int) (mk : Bool) (size fr limit : Int) (w : World) (hfb : fb < w.heap.size)
    (c0 : w.cell? ⟨fb, 0, none⟩ = some (.int .i64 n)) (c1 : w.cell? ⟨fb, 1, none⟩ = some (.int .i64 bytes)) (c2 : w.cell? ⟨fb, 2, none⟩ = some (.int .u32 ts))
    (c3 : w.cell? ⟨fb, 3, none⟩ = some (.int .i64 last)) (c4 : w.cell? ⟨fb, 4, none⟩ = some (.bool lm))
    (b1 : 0 ≤ bytes) (b2 : bytes ≤ 4294967296) (b3 : 0 ≤ size) (b4 : size ≤ 4294967296)
    (s1 : -2305843009213693952 ≤ seq) (s2 : seq ≤ 2305843009213693952) (l1 : -2305843009213693952 ≤ last) (l2 : last ≤ 2305843009213693952) (f1 : -2305843009213693952 ≤ fr) (f2 : fr ≤ 2305843009213693952) :
    Calls Try.prog 29 #[.pointer (some ⟨fb, 0, none⟩), .agg #[.int .i64 seq, .int .u32 pts, .bool mk, .int .i64 size, .slice none 0 0], .int .i64 fr, .int .i64 limit] w fun e w' =>
      e = .returned (.bool (fitsB n bytes ts last lm seq pts mk size fr limit)) ∧ Below w.heap.size w w' := by
  have key : ∀ v, fitsB n bytes ts last lm seq pts mk size fr limit = v → (Calls Try.prog 29 #[.pointer (some ⟨fb, 0, none⟩), .agg #[.int .i64 seq, .int .u32 pts, .bool mk, .int .i64 size, .slice none 0 0], .int .i64 fr, .int .i64 limit] w fun e w' => e = .returned (.bool v) ∧ Below w.heap.size w w') →
      Calls Try.prog 29 #[.pointer (some ⟨fb, 0, none⟩), .agg #[.int .i64 seq, .int .u32 pts, .bool mk, .int .i64 size, .slice none 0 0], .int .i64 fr, .int .i64 limit] w fun e w' =>
      e = .returned (.bool (fitsB n bytes ts last lm seq pts mk size fr limit)) ∧ Below w.heap.size w w' := by
    intro v hv h; rw [hv]; exact h
  by_cases h : limit < bytes + size
  · exact key _ (by unfold fitsB; rw [decide_eq_false (by omega)]; rfl) (fits_over fb n bytes ts last lm seq pts mk size fr limit w hfb c0 c1 c2 c3 c4 b1 b2 b3 b4 s1 s2 l1 l2 f1 f2 h)
  have hd : decide (limit < bytes + size) = false := decide_eq_false h
  have e0 : decide (bytes + size ≤ limit) = true := decide_eq_true (by omega)
  by_cases hn : n = 0
  · exact key _ (by unfold fitsB; rw [e0, decide_eq_true hn]; rfl) (fits_zero fb n bytes ts last lm seq pts mk size fr limit w hfb c0 c1 c2 c3 c4 b1 b2 b3 b4 s1 s2 l1 l2 f1 f2 hd (beq_iff_eq.2 hn))
  have hn' : (n == 0) = false := beq_eq_false_iff_ne.2 hn
  by_cases he : pts = ts
  case neg =>
    have he' : (pts == ts) = false := beq_eq_false_iff_ne.2 he
    have ev : fitsB n bytes ts last lm seq pts mk size fr limit = false := by unfold fitsB; rw [decide_eq_false he, decide_eq_false hn]; simp
    cases lm <;> cases mk
    · exact key _ ev (fits_eff fb n bytes ts last seq pts size fr limit w hfb c0 c1 c2 c3 c4 b1 b2 b3 b4 s1 s2 l1 l2 f1 f2 hd hn' he')
    · exact key _ ev (fits_eft fb n bytes ts last seq pts size fr limit w hfb c0 c1 c2 c3 c4 b1 b2 b3 b4 s1 s2 l1 l2 f1 f2 hd hn' he')
    · exact key _ ev (fits_etf fb n bytes ts last seq pts size fr limit w hfb c0 c1 c2 c3 c4 b1 b2 b3 b4 s1 s2 l1 l2 f1 f2 hd hn' he')
    · exact key _ ev (fits_ett fb n bytes ts last seq pts size fr limit w hfb c0 c1 c2 c3 c4 b1 b2 b3 b4 s1 s2 l1 l2 f1 f2 hd hn' he')
  have he' : (pts == ts) = true := beq_iff_eq.2 he
  rcases Int.lt_trichotomy seq last with a | a | a
  · have a2 : decide (last < seq) = false := decide_eq_false (by omega)
    have em : max seq last = last := by omega
    cases lm <;> cases mk
    · exact key _ (by unfold fitsB; rw [e0, decide_eq_false hn, decide_eq_true he, a2, em]; simp) (fits_ffl fb n bytes ts last seq pts size fr limit w hfb c0 c1 c2 c3 c4 b1 b2 b3 b4 s1 s2 l1 l2 f1 f2 hd hn' he' a a2)
    · exact key _ (by unfold fitsB; rw [e0, decide_eq_false hn, decide_eq_true he, a2, em]; simp [a]) (fits_ftl fb n bytes ts last seq pts size fr limit w hfb c0 c1 c2 c3 c4 b1 b2 b3 b4 s1 s2 l1 l2 f1 f2 hd hn' he' a a2)
    · exact key _ (by unfold fitsB; rw [e0, decide_eq_false hn, decide_eq_true he, a2, em]; simp) (fits_tfl fb n bytes ts last seq pts size fr limit w hfb c0 c1 c2 c3 c4 b1 b2 b3 b4 s1 s2 l1 l2 f1 f2 hd hn' he' a a2)
    · exact key _ (by unfold fitsB; rw [e0, decide_eq_false hn, decide_eq_true he, a2, em]; simp [a]) (fits_ttl fb n bytes ts last seq pts size fr limit w hfb c0 c1 c2 c3 c4 b1 b2 b3 b4 s1 s2 l1 l2 f1 f2 hd hn' he' a a2)
  · have a1 : decide (seq < last) = false := decide_eq_false (by omega)
    have a2 : decide (last < seq) = false := decide_eq_false (by omega)
    have em : max seq last = last := by omega
    subst a
    cases lm <;> cases mk
    · exact key _ (by unfold fitsB; rw [e0, decide_eq_false hn, decide_eq_true he, a1, em]; simp) (fits_ffq fb n bytes ts seq pts size fr limit w hfb c0 c1 c2 c3 c4 b1 b2 b3 b4 l1 l2 f1 f2 hd hn' he')
    · exact key _ (by unfold fitsB; rw [e0, decide_eq_false hn, decide_eq_true he, a1, em]; simp) (fits_ftq fb n bytes ts seq pts size fr limit w hfb c0 c1 c2 c3 c4 b1 b2 b3 b4 l1 l2 f1 f2 hd hn' he')
    · exact key _ (by unfold fitsB; rw [e0, decide_eq_false hn, decide_eq_true he, a1, em]; simp) (fits_tfq fb n bytes ts seq pts size fr limit w hfb c0 c1 c2 c3 c4 b1 b2 b3 b4 l1 l2 f1 f2 hd hn' he')
    · exact key _ (by unfold fitsB; rw [e0, decide_eq_false hn, decide_eq_true he, a1, em]; simp) (fits_ttq fb n bytes ts seq pts size fr limit w hfb c0 c1 c2 c3 c4 b1 b2 b3 b4 l1 l2 f1 f2 hd hn' he')
  · have a1 : decide (seq < last) = false := decide_eq_false (by omega)
    have em : max seq last = seq := by omega
    cases lm <;> cases mk
    · exact key _ (by unfold fitsB; rw [e0, decide_eq_false hn, decide_eq_true he, a1, em]; simp) (fits_ffg fb n bytes ts last seq pts size fr limit w hfb c0 c1 c2 c3 c4 b1 b2 b3 b4 s1 s2 l1 l2 f1 f2 hd hn' he' a1 a)
    · exact key _ (by unfold fitsB; rw [e0, decide_eq_false hn, decide_eq_true he, a1, em]; simp) (fits_ftg fb n bytes ts last seq pts size fr limit w hfb c0 c1 c2 c3 c4 b1 b2 b3 b4 s1 s2 l1 l2 f1 f2 hd hn' he' a1 a)
    · exact key _ (by unfold fitsB; rw [e0, decide_eq_false hn, decide_eq_true he, a1, em]; simp [a]) (fits_tfg fb n bytes ts last seq pts size fr limit w hfb c0 c1 c2 c3 c4 b1 b2 b3 b4 s1 s2 l1 l2 f1 f2 hd hn' he' a1 a)
    · exact key _ (by unfold fitsB; rw [e0, decide_eq_false hn, decide_eq_true he, a1, em]; simp [a]) (fits_ttg fb n bytes ts last seq pts size fr limit w hfb c0 c1 c2 c3 c4 b1 b2 b3 b4 s1 s2 l1 l2 f1 f2 hd hn' he' a1 a)

set_option maxHeartbeats 400000 in
theorem zzfits_any (n bytes ts last : Int) (lm : Bool) (seq pts : Int) (mk : Bool) (size fr limit : Int) (w : World)
    (b1 : 0 ≤ bytes) (b2 : bytes ≤ 4294967296) (b3 : 0 ≤ size) (b4 : size ≤ 4294967296)
    (s1 : -2305843009213693952 ≤ seq) (s2 : seq ≤ 2305843009213693952) (l1 : -2305843009213693952 ≤ last) (l2 : last ≤ 2305843009213693952) (f1 : -2305843009213693952 ≤ fr) (f2 : fr ≤ 2305843009213693952) :
    Calls Try.prog 13 #[.int .i64 n, .int .i64 bytes, .int .u32 ts, .int .i64 last, .bool lm, .int .i64 seq, .int .u32 pts, .bool mk, .int .i64 size, .int .i64 fr, .int .i64 limit] w fun e w' =>
      e = .returned (.bool (fitsB n bytes ts last lm seq pts mk size fr limit)) ∧ Below w.heap.size w w' := by
  go_enter Try.func13, Try.ntmps13
  go_wp2_with fail
  refine (fits_any w.heap.size n bytes ts last lm seq pts mk size fr limit _ (by simp) (by go_simp) (by go_simp) (by go_simp) (by go_simp) (by go_simp) b1 b2 b3 b4 s1 s2 l1 l2 f1 f2).mono ?_
  rintro e w1 ⟨rfl, hb⟩
  go_wp2
  go_ret
  exact ⟨rfl, ((Below.refl _ _).alloc (Nat.le_refl _) _).trans (hb.mono (by simp))⟩

end Go.Proofs.Qxb6605570a
