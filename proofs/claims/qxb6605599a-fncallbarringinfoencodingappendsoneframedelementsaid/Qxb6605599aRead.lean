/-
  Seat b6605599a: the door to appendEncoding, and cbReadLength in its four ways.
-/
import Derived.Test.Qxb6605599aInfo
namespace Go.Proofs.Qxb6605599a
open Go.RowKit

theorem enc10 (B : Nat) (w : World) (v : Value) (xs : List Int) (ss : Int) (has : Bool) (fa : Option Addr) (fb fo m fc : Nat) (F : Nat → Feat) (hF : Feats w fa fb fo m F) (hm : m ≤ 131072) (hown : Own B w v xs) (hB : B ≤ w.heap.size) (hb : xs.length ≤ 1048576) :
    Calls Try.prog 10 #[.agg #[.int .u8 ss, .bool has, .slice fa m fc], v] w fun e w' => ∃ v', e = .returned v' ∧ Own B w' v' (xs ++ encB ss has F m) ∧ Step xs.length w w' v v' := by
  cases has with
  | true => exact enc10_true B w v xs ss fa fb fo m fc F hF hm hown hB hb
  | false => exact enc10_false B w v xs ss fa fb fo m fc F hF hm hown hB hb

set_option maxHeartbeats 400000 in
theorem enc8 (B : Nat) (w : World) (v : Value) (xs : List Int) (ss : Int) (has : Bool) (fa : Option Addr) (fb fo m fc : Nat) (F : Nat → Feat) (hF : Feats w fa fb fo m F) (hm : m ≤ 131072) (hown : Own B w v xs) (hB : B ≤ w.heap.size) (hb : xs.length ≤ 1048576) :
    Calls Try.prog 8 #[.agg #[.int .u8 ss, .bool has, .slice fa m fc], v] w fun e w' => ∃ v', e = .returned v' ∧ Own B w' v' (xs ++ encB ss has F m) ∧ Step xs.length w w' v v' := by
  have HF : Hid (Feats w fa fb fo m F) := hF
  clear hF
  go_enter Try.func8, Try.ntmps8
  go_wp2_with fail
  refine (enc10 B _ v xs ss has fa fb fo m fc F (HF.out.later ((Below.refl _ _).alloc (Nat.le_refl _) _)) hm (hown.alloc _) (by simp; omega) hb).mono ?_
  rintro e w' ⟨v', rfl, ho, hs⟩
  go_wp2
  go_ret
  exact ⟨_, rfl, ho, ((Step.refl hown).alloc _).trans hs (Nat.le_refl _)⟩

set_option maxHeartbeats 400000 in
theorem read_0 (g N c : Nat) (b0 : Int) (w : World) (hN : 4 ≤ N) (hN2 : N ≤ 1073741824) (c1 : w.cell? ⟨g, 1, none⟩ = some (.int .u8 b0)) (h0 : 0 ≤ b0) (h1 : b0 < 128) :
    Calls Try.prog 9 #[.slice (some ⟨g, 0, none⟩) N c, .int .i64 1] w fun e w' => e = .returned (.tuple #[.int .i64 b0, .int .i64 2, .bool true]) ∧ w' = w := by
  have hN1 : (1 : Int) < (N : Int) := by omega
  go_enter Try.func9, Try.ntmps9
  go_wp2
  go_ret3
  exact ⟨rfl, rfl⟩

theorem and_1 : bits BinOp.and IntKind.u8 129 127 = 1 := by decide
set_option maxHeartbeats 400000 in
theorem read_1 (g N c : Nat) (b0 : Int) (w : World) (hN : 4 ≤ N) (hN2 : N ≤ 1073741824) (c1 : w.cell? ⟨g, 1, none⟩ = some (.int .u8 129)) (c2 : w.cell? ⟨g, 2, none⟩ = some (.int .u8 b0)) (h0 : 128 ≤ b0) (h1 : b0 < 256) :
    Calls Try.prog 9 #[.slice (some ⟨g, 0, none⟩) N c, .int .i64 1] w fun e w' => e = .returned (.tuple #[.int .i64 b0, .int .i64 3, .bool true]) ∧ w' = w := by
  have hN1 : (1 : Int) < (N : Int) := by omega
  have hN3 : (2 : Int) < (N : Int) := by omega
  have hb : (b0 == 0) = false := by rw [beq_eq_false_iff_ne]; omega
  have ha := and_1
  go_enter Try.func9, Try.ntmps9
  go_wp2
  refine wp_loop_rounds 2 ?_
  rw [rounds_succ]
  go_wp2
  rw [rounds_succ]
  go_wp2
  go_ret3
  exact ⟨rfl, rfl⟩

theorem and_2 : bits BinOp.and IntKind.u8 130 127 = 2 := by decide
set_option maxHeartbeats 400000 in
theorem read_2 (g N c : Nat) (b0 b1 : Int) (w : World) (hN : 5 ≤ N) (hN2 : N ≤ 1073741824) (c1 : w.cell? ⟨g, 1, none⟩ = some (.int .u8 130)) (c2 : w.cell? ⟨g, 2, none⟩ = some (.int .u8 b0)) (c3 : w.cell? ⟨g, 3, none⟩ = some (.int .u8 b1)) (h0 : 1 ≤ b0) (h1 : b0 < 256) (h2 : 0 ≤ b1) (h3 : b1 < 256) :
    Calls Try.prog 9 #[.slice (some ⟨g, 0, none⟩) N c, .int .i64 1] w fun e w' => e = .returned (.tuple #[.int .i64 (b0 * 256 + b1), .int .i64 4, .bool true]) ∧ w' = w := by
  have hN1 : (1 : Int) < (N : Int) := by omega
  have hN3 : (2 : Int) < (N : Int) := by omega
  have hN4 : (3 : Int) < (N : Int) := by omega
  have hb : (b0 == 0) = false := by rw [beq_eq_false_iff_ne]; omega
  have ha := and_2
  go_enter Try.func9, Try.ntmps9
  go_wp2
  refine wp_loop_rounds 3 ?_
  rw [rounds_succ]
  go_wp2
  rw [rounds_succ]
  go_wp2
  rw [rounds_succ]
  go_wp2
  go_ret3
  exact ⟨rfl, rfl⟩

theorem and_3 : bits BinOp.and IntKind.u8 131 127 = 3 := by decide
set_option maxHeartbeats 400000 in
theorem read_3 (g N c : Nat) (b0 b1 b2 : Int) (w : World) (hN : 6 ≤ N) (hN2 : N ≤ 1073741824) (c1 : w.cell? ⟨g, 1, none⟩ = some (.int .u8 131)) (c2 : w.cell? ⟨g, 2, none⟩ = some (.int .u8 b0)) (c3 : w.cell? ⟨g, 3, none⟩ = some (.int .u8 b1)) (c4 : w.cell? ⟨g, 4, none⟩ = some (.int .u8 b2)) (h0 : 1 ≤ b0) (h1 : b0 < 256) (h2 : 0 ≤ b1) (h3 : b1 < 256) (h4 : 0 ≤ b2) (h5 : b2 < 256) :
    Calls Try.prog 9 #[.slice (some ⟨g, 0, none⟩) N c, .int .i64 1] w fun e w' => e = .returned (.tuple #[.int .i64 ((b0 * 256 + b1) * 256 + b2), .int .i64 5, .bool true]) ∧ w' = w := by
  have hN1 : (1 : Int) < (N : Int) := by omega
  have hN3 : (2 : Int) < (N : Int) := by omega
  have hN4 : (3 : Int) < (N : Int) := by omega
  have hN5 : (4 : Int) < (N : Int) := by omega
  have hb : (b0 == 0) = false := by rw [beq_eq_false_iff_ne]; omega
  have ha := and_3
  go_enter Try.func9, Try.ntmps9
  go_wp2
  refine wp_loop_rounds 4 ?_
  rw [rounds_succ]
  go_wp2
  rw [rounds_succ]
  go_wp2
  rw [rounds_succ]
  go_wp2
  rw [rounds_succ]
  go_wp2
  go_ret3
  exact ⟨rfl, rfl⟩
end Go.Proofs.Qxb6605599a
