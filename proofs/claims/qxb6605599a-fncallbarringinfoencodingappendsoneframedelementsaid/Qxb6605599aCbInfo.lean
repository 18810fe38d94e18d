/-
  Seat b6605599a: cbInfo.
-/
import Derived.Test.Qxb6605599aCloneF
namespace Go.Proofs.Qxb6605599a
open Go.RowKit

/-- The result's cells as they are laid first. -/
def resZ : Nat → Value
  | 0 => .int .u8 0
  | 1 => .bool false
  | _ => .slice none 0 0

theorem resZ_row (w : World) : (w.alloc (.cells #[.int .u8 0, .bool false, .slice none 0 0] 30)).rowIs w.heap.size 30 3 resZ :=
  World.rowIs_alloc w #[.int .u8 0, .bool false, .slice none 0 0] 30 resZ (fun i hi => by
    match i, hi with
    | 0, _ => rfl
    | 1, _ => rfl
    | 2, _ => rfl
    | i + 3, hi => simp at hi; omega)

theorem other5 {w : World} {b t n g a0 b0 c0 d0 e0 : Nat} {f : Nat → Value} {v0 v1 v2 v3 v4 : Value} (h : w.rowIs b t n f) (hg : b ≠ g := by simp) :
    (((((w.setCell ⟨g, a0, none⟩ v0).setCell ⟨g, b0, none⟩ v1).setCell ⟨g, c0, none⟩ v2).setCell ⟨g, d0, none⟩ v3).setCell ⟨g, e0, none⟩ v4).rowIs b t n f :=
  ((((h.setOther hg v0).setOther hg v1).setOther hg v2).setOther hg v3).setOther hg v4

set_option maxHeartbeats 1000000 in
set_option maxRecDepth 100000 in
theorem info7_some (ss : Int) (has : Bool) (a : Addr) (b off n c : Nat) (F : Nat → Feat) (w : World) (hn : n ≤ 1048576) (hF : Feats w (some a) b off n F) :
    Calls Try.prog 7 #[.int .u8 ss, .bool has, .slice (some a) n c] w fun e w' => e = .returned (.agg #[.int .u8 ss, .bool has, .slice (some ⟨w.heap.size + 1, 0, none⟩) n n]) ∧ w'.rowIs (w.heap.size + 1) 42 (n * 5) (filling F n) ∧ Below w.heap.size w w' := by
  have hq := fun (wx : World) (a : Option Addr) (m c : Nat) => run_neq_slice_nil_any (P := Try.prog) wx 23 36 a m c 0 0 Try.underlying23
  have hmk := make5 Try.underlying28 Try.info42 n hn
  have HF : Hid (Feats w (some a) b off n F) := hF
  clear hF
  go_enter Try.func7, Try.ntmps7
  go_wp2
  clear hmk hq
  go_loopw [8] (fun s wr => ∃ k : Nat, k ≤ n ∧ s = .int .i64 k ∧ Below w.heap.size w wr ∧ wr.rowIs (w.heap.size + 1) 42 (n * 5) (filling F k) ∧ wr.rowIs w.heap.size 30 3 resZ) (fun s _ => n - (intOf s).toNat)
  case atStart =>
    have hb0 : Below w.heap.size w ((w.alloc (.cells #[.int .u8 0, .bool false, .slice none 0 0] 30)).alloc (.cells (madeCells zeroFeat (n * 5)) 42)) := ((Below.refl _ _).alloc (Nat.le_refl _) _).alloc (by simp) _
    have hr0 := made5_row (w.alloc (.cells #[.int .u8 0, .bool false, .slice none 0 0] 30)) n 42 F
    have hs0 : (w.alloc (.cells #[.int .u8 0, .bool false, .slice none 0 0] 30)).heap.size = w.heap.size + 1 := by simp
    rw [hs0] at hr0
    exact ⟨0, Nat.zero_le _, rfl, hb0, hr0, (resZ_row w).alloc _⟩
  case round =>
    obtain ⟨k, hk, rfl, hb, hr, hz⟩ := hrel
    by_cases hlt : k < n
    · obtain ha := HF.out.at_ (by omega)
      injection ha with ha
      subst ha
      have hF := HF.out.later hb
      have g0 := hF.c0 k hlt
      have g1 := hF.c1 k hlt
      have g2 := hF.c2 k hlt
      have g3 := hF.c3 k hlt
      have g4 := hF.c4 k hlt
      have hlt1 : w.heap.size + 1 < wr.heap.size := hr.lt
      have HR : Hid (wr.rowIs (w.heap.size + 1) 42 (n * 5) (filling F k) ∧ Below w.heap.size w wr ∧ wr.rowIs w.heap.size 30 3 resZ) := ⟨hr, hb, hz⟩
      have r0 := hr.cell (i := k * 5) (by omega)
      have r1 := hr.cell (i := k * 5 + 1) (by omega)
      have r2 := hr.cell (i := k * 5 + 2) (by omega)
      have r3 := hr.cell (i := k * 5 + 3) (by omega)
      have r4 := hr.cell (i := k * 5 + 4) (by omega)
      have z0 := hr.frozen (k * 5)
      have z1 := hr.frozen (k * 5 + 1)
      have z2 := hr.frozen (k * 5 + 2)
      have z3 := hr.frozen (k * 5 + 3)
      have z4 := hr.frozen (k * 5 + 4)
      clear hr hb hF hz
      go_wp2
      go_roundw
      case rel => exact ⟨k + 1, by omega, by go_num, (below5 HR.out.2.1 (Nat.le_succ _)).alloc (by simp; omega) _, (fill5 HR.out.1).alloc _, (other5 HR.out.2.2).alloc _⟩
      case measure => simp [intOf]; omega
    · have f0 := hz.cell (i := 0) (by decide)
      have f1 := hz.cell (i := 1) (by decide)
      have f2 := hz.cell (i := 2) (by decide)
      have e0 := hz.frozen 0
      have e1 := hz.frozen 1
      have e2 := hz.frozen 2
      obtain rfl : k = n := by omega
      go_wp2
      refine bodyPost_ret (v := .agg #[.int .u8 ss, .bool has, .slice (some ⟨w.heap.size + 1, 0, none⟩) k k]) (by simp [results, Try.results7, go_sem, f0, f1, f2]) rfl ⟨rfl, ?_, ?_⟩
      · exact ((hr.setOther (by simp) _).setOther (by simp) _).setOther (by simp) _
      · exact ((hb.setCell (Nat.le_refl _) _).setCell (Nat.le_refl _) _).setCell (Nat.le_refl _) _

set_option maxHeartbeats 1000000 in
set_option maxRecDepth 100000 in
theorem info7_nil (ss : Int) (has : Bool) (w : World) :
    Calls Try.prog 7 #[.int .u8 ss, .bool has, .slice none 0 0] w fun e w' => e = .returned (.agg #[.int .u8 ss, .bool has, .slice none 0 0]) ∧ Below w.heap.size w w' := by
  have hq := fun (wx : World) (a : Option Addr) (m c : Nat) => run_neq_slice_nil_any (P := Try.prog) wx 23 36 a m c 0 0 Try.underlying23
  go_enter Try.func7, Try.ntmps7
  go_wp2
  refine wp_loop_rounds 1 ?_
  rw [rounds_succ]
  go_wp2
  refine bodyPost_ret (v := .agg #[.int .u8 ss, .bool has, .slice none 0 0]) (by simp [results, Try.results7, go_sem]) rfl ⟨rfl, ?_⟩
  exact (Below.refl _ _).alloc (Nat.le_refl _) _

/-- cbInfo: a CallBarringInfo out of plain data. -/
theorem info7 (ss : Int) (has : Bool) (a : Option Addr) (b off n c : Nat) (F : Nat → Feat) (w : World) (hn : n ≤ 1048576) (h0 : a = none → n = 0 ∧ c = 0) (hF : Feats w a b off n F) :
    Calls Try.prog 7 #[.int .u8 ss, .bool has, .slice a n c] w fun e w' => ∃ fa, e = .returned (.agg #[.int .u8 ss, .bool has, .slice fa n n]) ∧ Feats w' fa (w.heap.size + 1) 0 n F ∧ Below w.heap.size w w' := by
  cases a with
  | none =>
    obtain ⟨rfl, rfl⟩ := h0 rfl
    exact (info7_nil ss has w).mono fun e w' ⟨he, hb⟩ => ⟨none, he, ⟨fun h => absurd h (Nat.lt_irrefl _), fun i h => absurd h (Nat.not_lt_zero _), fun i h => absurd h (Nat.not_lt_zero _), fun i h => absurd h (Nat.not_lt_zero _), fun i h => absurd h (Nat.not_lt_zero _), fun i h => absurd h (Nat.not_lt_zero _), fun i h => absurd h (Nat.not_lt_zero _)⟩, hb⟩
  | some a =>
    exact (info7_some ss has a b off n c F w hn hF).mono fun e w' ⟨he, hr, hb⟩ => ⟨_, he, feats_of_row hr (fun _ => rfl) hF.lo, hb⟩
end Go.Proofs.Qxb6605599a
