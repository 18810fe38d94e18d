/-
  Seat b6605599a: a slice of features, made and filled; its clone.
-/
import Derived.Test.Qxb6605599aInfo
namespace Go.Proofs.Qxb6605599a
open Go.RowKit
def zeroFeat : Array Value := #[.int .u8 0, .int .u8 0, .bool false, .int .u8 0, .bool false]
theorem Try.info36 : (Try.prog.info? 36).map (fun i => (i.zero, i.size, i.bytes)) = some (some (.agg zeroFeat), 5, 5) := by kernel_rfl
theorem Try.info42 : (Try.prog.info? 42).map (fun i => (i.zero, i.size, i.bytes)) = some (some (.agg zeroFeat), 5, 5) := by kernel_rfl

/-- The fields of a feature, cell by cell. -/
def fieldV (f : Feat) : Nat → Value
  | 0 => .int .u8 f.kind
  | 1 => .int .u8 f.code
  | 2 => .bool f.hasB
  | 3 => .int .u8 f.st
  | _ => .bool f.hasS
def zeroV : Feat := ⟨0, 0, false, 0, false⟩

/-- A row of features that is being filled: i of them are done. -/
def filling (F : Nat → Feat) (i : Nat) : Nat → Value := fun q => if q / 5 < i then fieldV (F (q / 5)) (q % 5) else fieldV zeroV (q % 5)

theorem make5 {t e : TypeId} (ht : Try.prog.underlying t = some (.slice e)) (hinfo : (Try.prog.info? e).map (fun i => (i.zero, i.size, i.bytes)) = some (some (.agg zeroFeat), 5, 5)) (n : Nat) (hn : n ≤ 1048576) (w : World) :
    (Instr.makeSlice t (.int .i64 (n : Int)) (.int .i64 (n : Int))).run Try.prog w = .ok (.slice (some ⟨w.heap.size, 0, none⟩) n n) (w.alloc (.cells (madeCells zeroFeat (n * 5)) e)) := by
  obtain ⟨i, hi, hz0, hz1, hz2⟩ := info_parts hinfo
  have hr := run_make (P := Try.prog) w t e i _ ht hi hz0 .i64 .i64 n n (by omega) (Int.le_refl _) (by rw [hz2]; omega) (by omega)
  simp only [Int.toNat_natCast, hz1] at hr
  exact hr

theorem made5_row (w : World) (n : Nat) (e : TypeId) (F : Nat → Feat) : (w.alloc (.cells (madeCells zeroFeat (n * 5)) e)).rowIs w.heap.size e (n * 5) (filling F 0) := by
  refine ⟨_, heap_alloc_new w _, size_madeCells _ _, fun i hi => ?_⟩
  have h5 : i % 5 < 5 := Nat.mod_lt _ (by decide)
  simp only [madeCells, filling, Nat.not_lt_zero, if_false, zeroFeat]
  rw [Array.getElem?_map, Array.getElem?_range]
  rw [if_pos hi]
  simp only [Option.map_some]
  generalize i % 5 = r at h5
  match r, h5 with
  | 0, _ => rfl
  | 1, _ => rfl
  | 2, _ => rfl
  | 3, _ => rfl
  | 4, _ => rfl

theorem fill5 {w : World} {g e : Nat} {N k : Nat} {F : Nat → Feat} (hr : w.rowIs g e N (filling F k)) :
    (((((w.setCell ⟨g, k * 5, none⟩ (.int .u8 (F k).kind)).setCell ⟨g, k * 5 + 1, none⟩ (.int .u8 (F k).code)).setCell ⟨g, k * 5 + 2, none⟩ (.bool (F k).hasB)).setCell ⟨g, k * 5 + 3, none⟩ (.int .u8 (F k).st)).setCell ⟨g, k * 5 + 4, none⟩ (.bool (F k).hasS)).rowIs g e N (filling F (k + 1)) := by
  refine (((((hr.set (k * 5) _).set (k * 5 + 1) _).set (k * 5 + 2) _).set (k * 5 + 3) _).set (k * 5 + 4) _).congr fun q _ => ?_
  unfold filling
  by_cases h4 : q = k * 5 + 4
  · subst h4
    rw [if_pos rfl, show (k * 5 + 4) / 5 = k by omega, show (k * 5 + 4) % 5 = 4 by omega, if_pos (by omega)]; rfl
  rw [if_neg h4]
  by_cases h3 : q = k * 5 + 3
  · subst h3
    rw [if_pos rfl, show (k * 5 + 3) / 5 = k by omega, show (k * 5 + 3) % 5 = 3 by omega, if_pos (by omega)]; rfl
  rw [if_neg h3]
  by_cases h2 : q = k * 5 + 2
  · subst h2
    rw [if_pos rfl, show (k * 5 + 2) / 5 = k by omega, show (k * 5 + 2) % 5 = 2 by omega, if_pos (by omega)]; rfl
  rw [if_neg h2]
  by_cases h1 : q = k * 5 + 1
  · subst h1
    rw [if_pos rfl, show (k * 5 + 1) / 5 = k by omega, show (k * 5 + 1) % 5 = 1 by omega, if_pos (by omega)]; rfl
  rw [if_neg h1]
  by_cases h0 : q = k * 5
  · subst h0
    rw [if_pos rfl, show (k * 5) / 5 = k by omega, show (k * 5) % 5 = 0 by omega, if_pos (by omega)]; rfl
  rw [if_neg h0]
  by_cases hk : q / 5 < k
  · rw [if_pos hk, if_pos (by omega)]
  · rw [if_neg hk, if_neg (by omega)]

theorem below5 {w wr : World} {B g a b c d e : Nat} {v0 v1 v2 v3 v4 : Value} (h : Below B w wr) (hg : B ≤ g := by exact Nat.le_refl _) :
    Below B w (((((wr.setCell ⟨g, a, none⟩ v0).setCell ⟨g, b, none⟩ v1).setCell ⟨g, c, none⟩ v2).setCell ⟨g, d, none⟩ v3).setCell ⟨g, e, none⟩ v4) :=
  ((((h.setCell (p := ⟨g, a, none⟩) hg v0).setCell (p := ⟨g, b, none⟩) hg v1).setCell (p := ⟨g, c, none⟩) hg v2).setCell (p := ⟨g, d, none⟩) hg v3).setCell (p := ⟨g, e, none⟩) hg v4

/-- A row of features that is filled holds them. -/
theorem feats_of_row {w : World} {g e n : Nat} {F : Nat → Feat} {fa : Option Addr} (hr : w.rowIs g e (n * 5) (filling F n)) (hfa : 0 < n → fa = some ⟨g, 0, none⟩) (hlo : ∀ i, i < n → 0 ≤ (F i).kind ∧ (F i).kind ≤ 255) : Feats w fa g 0 n F := by
  have key : ∀ i r, i < n → r < 5 → w.cell? ⟨g, 0 + i * 5 + r, none⟩ = some (fieldV (F i) r) := by
    intro i r hi hr5
    rw [Nat.zero_add, hr.cell (by omega)]
    unfold filling
    rw [show (i * 5 + r) / 5 = i by omega, show (i * 5 + r) % 5 = r by omega, if_pos hi]
  exact ⟨hfa, hlo, fun i hi => key i 0 hi (by decide), fun i hi => key i 1 hi (by decide), fun i hi => key i 2 hi (by decide), fun i hi => key i 3 hi (by decide), fun i hi => key i 4 hi (by decide)⟩

set_option maxHeartbeats 1000000 in
theorem clone6_some (a : Addr) (b off n c : Nat) (F : Nat → Feat) (w : World) (hn : n ≤ 1048576) (hF : Feats w (some a) b off n F) :
    Calls Try.prog 6 #[.slice (some a) n c] w fun e w' => e = .returned (.slice (some ⟨w.heap.size, 0, none⟩) n n) ∧ w'.rowIs w.heap.size 36 (n * 5) (filling F n) ∧ Below w.heap.size w w' := by
  have hq := fun (wx : World) (a : Option Addr) (m c : Nat) => Lib.run_eql_slice_nil (P := Try.prog) wx 23 36 a m c 0 0 Try.underlying23
  have hmk := make5 Try.underlying23 Try.info36 n hn
  have HF : Hid (Feats w (some a) b off n F) := hF
  clear hF
  go_enter Try.func6, Try.ntmps6
  go_wp2
  clear hmk hq
  go_loopw [4] (fun s wr => ∃ k : Nat, k ≤ n ∧ s = .int .i64 k ∧ Below w.heap.size w wr ∧ wr.rowIs w.heap.size 36 (n * 5) (filling F k)) (fun s _ => n - (intOf s).toNat)
  case atStart => exact ⟨0, Nat.zero_le _, rfl, (Below.refl _ _).alloc (Nat.le_refl _) _, made5_row w n 36 F⟩
  case round =>
    obtain ⟨k, hk, rfl, hb, hr⟩ := hrel
    by_cases hlt : k < n
    · obtain ha := HF.out.at_ (by omega)
      injection ha with ha
      subst ha
      have hF := HF.out.later hb
      have g0 := hF.c0 k hlt
      have g1 := hF.c1 k hlt
      have g2 := hF.c2 k hlt
      have g3 := hF.c3 k hlt
      have g4 := hF.c4 k hlt
      have r0 := hr.cell (i := k * 5) (by omega)
      have r1 := hr.cell (i := k * 5 + 1) (by omega)
      have r2 := hr.cell (i := k * 5 + 2) (by omega)
      have r3 := hr.cell (i := k * 5 + 3) (by omega)
      have r4 := hr.cell (i := k * 5 + 4) (by omega)
      have z0 := hr.frozen (k * 5)
      have z1 := hr.frozen (k * 5 + 1)
      have z2 := hr.frozen (k * 5 + 2)
      have z3 := hr.frozen (k * 5 + 3)
      have z4 := hr.frozen (k * 5 + 4)
      have HR : Hid (wr.rowIs w.heap.size 36 (n * 5) (filling F k) ∧ Below w.heap.size w wr) := ⟨hr, hb⟩
      clear hr hb hF
      go_wp2
      go_roundw
      case rel => exact ⟨k + 1, by omega, by go_num, below5 HR.out.2, fill5 HR.out.1⟩
      case measure => simp [intOf]; omega
    · go_wp2
      go_ret
      obtain rfl : k = n := by omega
      exact ⟨rfl, hr, hb⟩

set_option maxHeartbeats 400000 in
theorem clone6_nil (w : World) :
    Calls Try.prog 6 #[.slice none 0 0] w fun e w' => e = .returned (.slice none 0 0) ∧ w' = w := by
  have hq := fun (wx : World) (a : Option Addr) (m c : Nat) => Lib.run_eql_slice_nil (P := Try.prog) wx 23 36 a m c 0 0 Try.underlying23
  go_enter Try.func6, Try.ntmps6
  go_wp2
  go_ret
  exact ⟨rfl, rfl⟩

/-- The clone of the features, nil or not. -/
theorem clone6 (a : Option Addr) (b off n c : Nat) (F : Nat → Feat) (w : World) (hn : n ≤ 1048576) (h0 : a = none → n = 0 ∧ c = 0) (hF : Feats w a b off n F) :
    Calls Try.prog 6 #[.slice a n c] w fun e w' => ∃ ga, e = .returned (.slice ga n n) ∧ Feats w' ga w.heap.size 0 n F ∧ Below w.heap.size w w' := by
  cases a with
  | none =>
    obtain ⟨rfl, rfl⟩ := h0 rfl
    exact (clone6_nil w).mono fun e w' ⟨he, hw⟩ => ⟨none, he, ⟨fun h => absurd h (Nat.lt_irrefl _), fun i h => absurd h (Nat.not_lt_zero _), fun i h => absurd h (Nat.not_lt_zero _), fun i h => absurd h (Nat.not_lt_zero _), fun i h => absurd h (Nat.not_lt_zero _), fun i h => absurd h (Nat.not_lt_zero _), fun i h => absurd h (Nat.not_lt_zero _)⟩, hw ▸ Below.refl _ _⟩
  | some a =>
    exact (clone6_some a b off n c F w hn hF).mono fun e w' ⟨he, hr, hb⟩ => ⟨_, he, feats_of_row hr (fun _ => rfl) hF.lo, hb⟩
end Go.Proofs.Qxb6605599a
