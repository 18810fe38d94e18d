/-
  The walks of seat b6605593a: what each function beneath the two laws does.
-/
import Derived.Test.Qxb6605593aRows
import Derived.WalkKit
import Derived.WalkSpells
import Derived.WalkLawsBesides
import Derived.Deep.QuietTactic
import Derived.BigQuiet
import Derived.RegionTactic
import Derived.Deep.OwnRows
namespace Go.Proofs.Qxb6605593a
open Go.RowKit

theorem Try.info9 : (Try.prog.info? 9).map (fun i => (i.zero, i.size, i.bytes)) = some (some (.string ByteArray.empty), 1, 16) := by kernel_rfl
theorem Try.info3 : (Try.prog.info? 3).map (fun i => (i.zero, i.size, i.bytes)) = some (some (.int .i64 0), 1, 8) := by kernel_rfl

/-- A new row that is filled from the front: the first k cells are done. -/
theorem fill_step {w : World} {b : Nat} {t : TypeId} {n k : Nat} {F : Nat → Value} {z : Value} (h : w.rowIs b t n (fun j => if j < k then F j else z)) :
    (w.setCell ⟨b, k, none⟩ (F k)).rowIs b t n (fun j => if j < k + 1 then F j else z) := by
  refine (h.set k (F k)).congr fun j hj => ?_
  by_cases e : j = k
  · subst e; simp
  · simp only [if_neg e]
    by_cases l : j < k
    · rw [if_pos l, if_pos (by omega)]
    · rw [if_neg l, if_neg (by omega)]

set_option maxHeartbeats 400000 in
theorem cloneS_nil (w : World) :
    Calls Try.prog 7 #[.slice none 0 0] w fun e w' => e = .returned (.slice none 0 0) ∧ w' = w := by
  have hq := fun (wx : World) (a : Option Addr) (m c : Nat) => Lib.run_eql_slice_nil (P := Try.prog) wx 22 9 a m c 0 0 Try.underlying22
  go_enter Try.func7, Try.ntmps7
  go_wp2
  go_ret
  exact ⟨rfl, rfl⟩

set_option maxHeartbeats 400000 in
theorem cloneS_some (a : Addr) (b off n c : Nat) (f : Nat → ByteArray) (w : World) (hn : n ≤ 1048576) (hab : 0 < n → a = ⟨b, off, none⟩)
    (hc : ∀ j, j < n → w.cell? ⟨b, off + j, none⟩ = some (.string (f j))) :
    Calls Try.prog 7 #[.slice (some a) n c] w fun e w' => e = .returned (.slice (some ⟨w.heap.size, 0, none⟩) n n) ∧ Below w.heap.size w w' ∧ w'.rowIs w.heap.size 9 n (fun j => .string (f j)) := by
  have hq := fun (wx : World) (a : Option Addr) (m c : Nat) => Lib.run_eql_slice_nil (P := Try.prog) wx 22 9 a m c 0 0 Try.underlying22
  have hmk := run_make_row' (P := Try.prog) 22 9 (.string ByteArray.empty) 16 Try.underlying22 Try.info9 rfl .i64 .i64 n (by omega) (by omega)
  go_enter Try.func7, Try.ntmps7
  go_wp2
  clear hmk hq
  go_loopw [4] (fun i wr => ∃ k : Nat, k ≤ n ∧ i = .int .i64 k ∧ Below w.heap.size w wr ∧ wr.rowIs w.heap.size 9 n (fun j => if j < k then .string (f j) else .string ByteArray.empty)) (fun i _ => n - (intOf i).toNat)
  case atStart => exact ⟨0, Nat.zero_le _, rfl, (Below.refl _ _).alloc (Nat.le_refl _) _, (World.rowIs_made w (.string ByteArray.empty) n 9).congr (fun i _ => by simp)⟩
  case round =>
    obtain ⟨k, hk, rfl, hb, hr⟩ := hrel
    by_cases hlt : k < n
    · obtain rfl := hab (by omega)
      have hbl : b < w.heap.size := World.block_lt_of_cell? _ _ (hc k hlt)
      have hcx : wr.cell? ⟨b, off + k, none⟩ = some (.string (f k)) := (hb.cell (p := ⟨b, off + k, none⟩) hbl).trans (hc k hlt)
      have hrc : wr.cell? ⟨w.heap.size, k, none⟩ = some (.string ByteArray.empty) := by simpa using hr.cell hlt
      have hrf := hr.frozen k
      have R := fill_step hr
      have R2 := hb.setCell (p := ⟨w.heap.size, k, none⟩) (Nat.le_refl _) (.string (f k))
      have RH : Hid _ := And.intro R R2
      clear R R2 hr hb
      go_wp2
      go_roundw
      case rel => exact ⟨k + 1, by omega, by go_num, RH.out.2, RH.out.1⟩
      case measure => simp [intOf]; omega
    · go_wp2
      go_ret
      exact ⟨rfl, hb, hr.congr (fun i hi => by rw [if_pos (by omega)])⟩
set_option maxHeartbeats 400000 in
theorem cloneI_nil (w : World) :
    Calls Try.prog 8 #[.slice none 0 0] w fun e w' => e = .returned (.slice none 0 0) ∧ w' = w := by
  have hq := fun (wx : World) (a : Option Addr) (m c : Nat) => Lib.run_eql_slice_nil (P := Try.prog) wx 23 3 a m c 0 0 Try.underlying23
  go_enter Try.func8, Try.ntmps8
  go_wp2
  go_ret
  exact ⟨rfl, rfl⟩

set_option maxHeartbeats 400000 in
theorem cloneI_some (a : Addr) (b off n c : Nat) (f : Nat → Int) (w : World) (hn : n ≤ 1048576) (hab : 0 < n → a = ⟨b, off, none⟩)
    (hc : ∀ j, j < n → w.cell? ⟨b, off + j, none⟩ = some (.int .i64 (f j))) :
    Calls Try.prog 8 #[.slice (some a) n c] w fun e w' => e = .returned (.slice (some ⟨w.heap.size, 0, none⟩) n n) ∧ Below w.heap.size w w' ∧ w'.rowIs w.heap.size 3 n (fun j => .int .i64 (f j)) := by
  have hq := fun (wx : World) (a : Option Addr) (m c : Nat) => Lib.run_eql_slice_nil (P := Try.prog) wx 23 3 a m c 0 0 Try.underlying23
  have hmk := run_make_row' (P := Try.prog) 23 3 (.int .i64 0) 8 Try.underlying23 Try.info3 rfl .i64 .i64 n (by omega) (by omega)
  go_enter Try.func8, Try.ntmps8
  go_wp2
  clear hmk hq
  go_loopw [4] (fun i wr => ∃ k : Nat, k ≤ n ∧ i = .int .i64 k ∧ Below w.heap.size w wr ∧ wr.rowIs w.heap.size 3 n (fun j => if j < k then .int .i64 (f j) else .int .i64 0)) (fun i _ => n - (intOf i).toNat)
  case atStart => exact ⟨0, Nat.zero_le _, rfl, (Below.refl _ _).alloc (Nat.le_refl _) _, (World.rowIs_made w (.int .i64 0) n 3).congr (fun i _ => by simp)⟩
  case round =>
    obtain ⟨k, hk, rfl, hb, hr⟩ := hrel
    by_cases hlt : k < n
    · obtain rfl := hab (by omega)
      have hbl : b < w.heap.size := World.block_lt_of_cell? _ _ (hc k hlt)
      have hcx : wr.cell? ⟨b, off + k, none⟩ = some (.int .i64 (f k)) := (hb.cell (p := ⟨b, off + k, none⟩) hbl).trans (hc k hlt)
      have hrc : wr.cell? ⟨w.heap.size, k, none⟩ = some (.int .i64 0) := by simpa using hr.cell hlt
      have hrf := hr.frozen k
      have R := fill_step hr
      have R2 := hb.setCell (p := ⟨w.heap.size, k, none⟩) (Nat.le_refl _) (.int .i64 (f k))
      have RH : Hid _ := And.intro R R2
      clear R R2 hr hb
      go_wp2
      go_roundw
      case rel => exact ⟨k + 1, by omega, by go_num, RH.out.2, RH.out.1⟩
      case measure => simp [intOf]; omega
    · go_wp2
      go_ret
      exact ⟨rfl, hb, hr.congr (fun i hi => by rw [if_pos (by omega)])⟩

/-- The clone of a slice of strings, nil or not: its length is the same, its cells read as the old ones. -/
theorem cloneS (a : Option Addr) (b off n c : Nat) (f : Nat → ByteArray) (w : World) (hn : n ≤ 1048576) (h0 : a = none → n = 0 ∧ c = 0) (hab : 0 < n → a = some ⟨b, off, none⟩)
    (hc : ∀ j, j < n → w.cell? ⟨b, off + j, none⟩ = some (.string (f j))) :
    Calls Try.prog 7 #[.slice a n c] w fun e w' => ∃ g : Option Addr, e = .returned (.slice g n n) ∧ Below w.heap.size w w' ∧ (0 < n → g = some ⟨w.heap.size, 0, none⟩) ∧ ∀ j, j < n → w'.cell? ⟨w.heap.size, j, none⟩ = some (.string (f j)) := by
  cases a with
  | none =>
    obtain ⟨rfl, rfl⟩ := h0 rfl
    exact (cloneS_nil w).mono fun e w' ⟨he, hw⟩ => ⟨none, he, hw ▸ Below.refl _ _, fun h => absurd h (Nat.lt_irrefl _), fun j h => absurd h (Nat.not_lt_zero _)⟩
  | some a =>
    exact (cloneS_some a b off n c f w hn (fun h => Option.some.inj (hab h)) hc).mono fun e w' ⟨he, hb, hr⟩ => ⟨_, he, hb, fun _ => rfl, fun j h => hr.cell h⟩

theorem cloneI (a : Option Addr) (b off n c : Nat) (f : Nat → Int) (w : World) (hn : n ≤ 1048576) (h0 : a = none → n = 0 ∧ c = 0) (hab : 0 < n → a = some ⟨b, off, none⟩)
    (hc : ∀ j, j < n → w.cell? ⟨b, off + j, none⟩ = some (.int .i64 (f j))) :
    Calls Try.prog 8 #[.slice a n c] w fun e w' => ∃ g : Option Addr, e = .returned (.slice g n n) ∧ Below w.heap.size w w' := by
  cases a with
  | none =>
    obtain ⟨rfl, rfl⟩ := h0 rfl
    exact (cloneI_nil w).mono fun e w' ⟨he, hw⟩ => ⟨none, he, hw ▸ Below.refl _ _⟩
  | some a =>
    exact (cloneI_some a b off n c f w hn (fun h => Option.some.inj (hab h)) hc).mono fun e w' ⟨he, hb, hr⟩ => ⟨_, he, hb⟩

/-- What the bound on total length answers: where it answers yes, both lengths are at most 1<<20. -/
def Bounded (n m : Nat) (e : Ending) : Prop := ∃ r : Bool, e = .returned (.bool r) ∧ (r = true → n ≤ 1048576 ∧ m ≤ 1048576)
theorem Bounded.no (n m : Nat) : Bounded n m (.returned (.bool false)) := ⟨false, rfl, fun h => by cases h⟩
theorem Bounded.yes {n m : Nat} (h1 : n ≤ 1048576) (h2 : m ≤ 1048576) : Bounded n m (.returned (.bool true)) := ⟨true, rfl, fun _ => ⟨h1, h2⟩⟩
set_option maxHeartbeats 400000 in
theorem bytes5 (a a2 : Option Addr) (b off n c m c2 : Nat) (wd i : Int) (f : Nat → ByteArray) (w : World) (hn : n ≤ maxLen) (hm : m ≤ maxLen) (hab : 0 < n → a = some ⟨b, off, none⟩)
    (hc : ∀ j, j < n → w.cell? ⟨b, off + j, none⟩ = some (.string (f j))) (hs : ∀ j, j < n → (f j).size ≤ maxLen) :
    Calls Try.prog 5 #[.slice a n c, .int .i64 wd, .slice a2 m c2, .int .i64 i] w fun e w' => Bounded n m e ∧ w' = w := by
  unfold maxLen at hn hm hs
  by_cases hbig : n ≤ 1048576
  · go_enter Try.func5, Try.ntmps5
    go_wp2
    go_loop [9, 10] (fun t i => ∃ (k : Nat) (s : Int), k ≤ n ∧ i = .int .i64 k ∧ t = .int .i64 s ∧ 0 ≤ s ∧ s ≤ 1048576) (fun _ i => n - (intOf i).toNat)
    case atStart => exact ⟨0, n, Nat.zero_le _, rfl, rfl, by omega, by omega⟩
    case round =>
      obtain ⟨k, s, hk, rfl, rfl, hs0, hs1⟩ := hrel
      by_cases hlt : k < n
      · obtain rfl := hab (by omega)
        have hcx := hc k hlt
        have hsx := hs k hlt
        clear hc hs
        go_wp2
        all_goals first
          | (go_round
             case rel => exact ⟨k + 1, _, by omega, by go_num, rfl, by omega, by omega⟩
             case measure => simp [intOf]; omega)
          | (go_ret; exact ⟨Bounded.no _ _, rfl⟩)
      · go_wp2
        all_goals (go_ret; first | exact ⟨Bounded.no _ _, rfl⟩ | exact ⟨Bounded.yes (by omega) (by omega), rfl⟩)
  · go_enter Try.func5, Try.ntmps5
    go_wp2
    go_ret
    exact ⟨Bounded.no _ _, rfl⟩
set_option maxHeartbeats 400000 in
theorem bytes11 (a a2 : Option Addr) (b off n c m c2 : Nat) (wd : Int) (f : Nat → ByteArray) (w : World) (hn : n ≤ maxLen) (hm : m ≤ maxLen) (hab : 0 < n → a = some ⟨b, off, none⟩)
    (hc : ∀ j, j < n → w.cell? ⟨b, off + j, none⟩ = some (.string (f j))) (hs : ∀ j, j < n → (f j).size ≤ maxLen) :
    Calls Try.prog 11 #[.slice a n c, .int .i64 wd, .slice a2 m c2] w fun e w' => Bounded n m e ∧ w' = w := by
  unfold maxLen at hn hm hs
  by_cases hbig : n ≤ 1048576
  · go_enter Try.func11, Try.ntmps11
    go_wp2
    go_loop [7, 8] (fun t i => ∃ (k : Nat) (s : Int), k ≤ n ∧ i = .int .i64 k ∧ t = .int .i64 s ∧ 0 ≤ s ∧ s ≤ 1048576) (fun _ i => n - (intOf i).toNat)
    case atStart => exact ⟨0, n, Nat.zero_le _, rfl, rfl, by omega, by omega⟩
    case round =>
      obtain ⟨k, s, hk, rfl, rfl, hs0, hs1⟩ := hrel
      by_cases hlt : k < n
      · obtain rfl := hab (by omega)
        have hcx := hc k hlt
        have hsx := hs k hlt
        clear hc hs
        go_wp2
        all_goals first
          | (go_round
             case rel => exact ⟨k + 1, _, by omega, by go_num, rfl, by omega, by omega⟩
             case measure => simp [intOf]; omega)
          | (go_ret; exact ⟨Bounded.no _ _, rfl⟩)
      · go_wp2
        all_goals (go_ret; first | exact ⟨Bounded.no _ _, rfl⟩ | exact ⟨Bounded.yes (by omega) (by omega), rfl⟩)
  · go_enter Try.func11, Try.ntmps11
    go_wp2
    go_ret
    exact ⟨Bounded.no _ _, rfl⟩

/-- What 'batchBytes' answers: some int. -/
def SomeInt (e : Ending) : Prop := ∃ r : Int, e = .returned (.int .i64 r)
theorem SomeInt.mk (r : Int) : SomeInt (.returned (.int .i64 r)) := ⟨r, rfl⟩
set_option maxHeartbeats 400000 in
theorem batchBytes (a a2 : Option Addr) (b off n c m c2 : Nat) (f : Nat → ByteArray) (w : World) (hn : n ≤ 1048576) (hm : m ≤ 1048576) (hab : 0 < n → a = some ⟨b, off, none⟩)
    (hc : ∀ j, j < n → w.cell? ⟨b, off + j, none⟩ = some (.string (f j))) :
    Calls Try.prog 6 #[.slice a n c, .slice a2 m c2] w fun e w' => SomeInt e ∧ w' = w := by
  go_enter Try.func6, Try.ntmps6
  go_wp2
  go_loop [5, 6] (fun t i => ∃ (k : Nat) (s : Int), k ≤ n ∧ i = .int .i64 k ∧ t = .int .i64 s) (fun _ i => n - (intOf i).toNat)
  case atStart => exact ⟨0, _, Nat.zero_le _, rfl, rfl⟩
  case round =>
    obtain ⟨k, s, hk, rfl, rfl⟩ := hrel
    by_cases hlt : k < n
    · obtain rfl := hab (by omega)
      have hcx := hc k hlt
      clear hc
      go_wp2
      all_goals first
        | (go_round
           case rel => exact ⟨k + 1, _, by omega, by go_num, rfl⟩
           case measure => simp [intOf]; omega)
        | (go_ret; exact ⟨SomeInt.mk _, rfl⟩)
    · go_wp2
      go_ret
      exact ⟨SomeInt.mk _, rfl⟩

set_option maxHeartbeats 400000 in
theorem newBatch (g g2 : Option Addr) (n c m c2 : Nat) (wd : Int) (w : World) :
    Calls Try.prog 9 #[.slice g n c, .int .i64 wd, .slice g2 m c2] w fun e w' => e = .returned (.pointer (some ⟨w.heap.size, 0, none⟩)) ∧ w' = w.alloc (.cells #[.slice g n c, .int .i64 wd, .slice g2 m c2] 33) := by
  go_enter Try.func9, Try.ntmps9
  go_wp2
  go_ret
  exact ⟨rfl, rfl⟩

set_option maxHeartbeats 400000 in
theorem row (p g n lo W : Nat) (i wd : Int) (w : World) (hn : n ≤ 1048576) (h0 : 0 ≤ i) (h1 : i ≤ 1048576) (hW : wd = W) (hW1 : 0 < W) (e1 : i * (W : Int) = lo) (e2 : (i + 1) * (W : Int) = (lo : Int) + W) (hle : lo + W ≤ n)
    (c0 : w.cell? ⟨p, 0, none⟩ = some (.slice (some ⟨g, 0, none⟩) n n)) (c1 : w.cell? ⟨p, 1, none⟩ = some (.int .i64 wd)) :
    Calls Try.prog 10 #[.pointer (some ⟨p, 0, none⟩), .int .i64 i] w fun e w' => e = .returned (.slice (some ⟨g, lo, none⟩) W (n - lo)) ∧ ∃ nq, w' = w.drewN nq := by
  subst hW
  go_enter Try.func10, Try.ntmps10
  go_wp2
  go_quiet (fail)
  go_wp2
  rw [Nat.add_sub_cancel_left]
  go_ret
  exact ⟨rfl, _, rfl⟩
end Go.Proofs.Qxb6605593a
