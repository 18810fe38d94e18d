/-
  Seat b6605650a: the walks beneath the law: a File is laid, asked whether it is a fast symbolic link and what holds its data; the clone of a slice of bytes; the bound on total length.
-/
import Derived.Test.Qxb6605650aRows
import Derived.WalkKit
import Derived.WalkSpells
import Derived.WalkLawsBesides
import Derived.Laws.Tables
import Derived.Laws.BitsAllLaws
import Derived.Deep.OwnRows
namespace Go.Proofs.Qxb6605650a
open Go.RowKit
theorem size25 : (Try.prog.info? 25).map (·.size) = some 60 := by kernel_rfl

/-- A File's cells as they are laid first, and where each field lies. -/
def zero35 : Array Value := #[.int .u32 0, .int .u8 0, .int .u16 0, .int .u32 0, .int .u32 0, .int .u64 0, .int .i64 0, .int .u32 0] ++ Array.replicate 60 (.int .u8 0) ++ #[.slice none 0 0]
def places35 : List (Nat × Nat) := [(0, 1), (1, 1), (2, 1), (3, 1), (4, 1), (5, 1), (6, 1), (7, 1), (8, 60), (68, 1)]
theorem built_fill (parts : List (Nat × Value)) : Try.prog.built 35 parts = Instr.fill (places35.toArray[·]?) zero35 parts := by kernel_rfl
theorem zero_size : zero35.size = 69 := rfl

theorem fill_one {place : Nat → Option (Nat × Nat)} {cells : Array Value} {i off : Nat} {v : Value} {rest : List (Nat × Value)} (hp : place i = some (off, 1)) (hv : v.cells = #[v]) (ho : off < cells.size) :
    Instr.fill place cells ((i, v) :: rest) = Instr.fill place (cells.setIfInBounds off v) rest := by
  rw [Instr.fill, hp]
  simp only [hv]
  rw [if_neg (by simp; omega)]
  rfl

/-- Laying a row of cells from place off on: the cells ahead of it stay. -/
theorem lay_list (off : Nat) : ∀ (l : List (Value × Nat)) (cells : Array Value), (l.foldl (fun cs (p : Value × Nat) => cs.setIfInBounds (off + p.2) p.1) cells).size = cells.size ∧ ∀ k, k < off → (l.foldl (fun cs (p : Value × Nat) => cs.setIfInBounds (off + p.2) p.1) cells)[k]? = cells[k]?
  | [], cells => ⟨rfl, fun _ _ => rfl⟩
  | p :: l, cells => by
    obtain ⟨h1, h2⟩ := lay_list off l (cells.setIfInBounds (off + p.2) p.1)
    rw [List.foldl_cons]
    refine ⟨by rw [h1]; simp, fun k hk => ?_⟩
    rw [h2 k hk, Array.getElem?_setIfInBounds, if_neg (by omega)]

theorem fill_row {place : Nat → Option (Nat × Nat)} {cells : Array Value} {i off : Nat} {xs : Array Value} {rest : List (Nat × Value)} (hp : place i = some (off, xs.size)) (ho : off + xs.size ≤ cells.size) :
    ∃ cells', cells'.size = cells.size ∧ (∀ k, k < off → cells'[k]? = cells[k]?) ∧ Instr.fill place cells ((i, .agg xs) :: rest) = Instr.fill place cells' rest := by
  have hl := lay_list off xs.zipIdx.toList cells
  refine ⟨_, hl.1, hl.2, ?_⟩
  have hcond : (decide ((Value.agg xs).cells.size ≠ xs.size) || decide (off + (Value.agg xs).cells.size > cells.size)) = false := by
    simp [Value.cells]; omega
  rw [Instr.fill, hp]
  simp only [hcond, Bool.false_eq_true, if_false]
  rw [Array.foldl_toList]
  rfl

theorem built35 (ino typ perm uid gid size mtime flags : Int) (xs : Array Value) (hx : xs.size = 60) (a : Option Addr) (n c : Nat) :
    ∃ cells : Array Value, Try.prog.built 35 [(0, .int .u32 ino), (1, .int .u8 typ), (2, .int .u16 perm), (3, .int .u32 uid), (4, .int .u32 gid), (5, .int .u64 size), (6, .int .i64 mtime), (7, .int .u32 flags), (8, .agg xs), (9, .slice a n c)] = some cells ∧
      cells[1]? = some (.int .u8 typ) ∧ cells[5]? = some (.int .u64 size) ∧ cells[7]? = some (.int .u32 flags) := by
  have hz := zero_size
  rw [built_fill]
  rw [fill_one (off := 0) rfl rfl (by simp [hz]), fill_one (off := 1) rfl rfl (by simp [hz]), fill_one (off := 2) rfl rfl (by simp [hz]), fill_one (off := 3) rfl rfl (by simp [hz]), fill_one (off := 4) rfl rfl (by simp [hz]), fill_one (off := 5) rfl rfl (by simp [hz]), fill_one (off := 6) rfl rfl (by simp [hz]), fill_one (off := 7) rfl rfl (by simp [hz])]
  obtain ⟨cells', hs, hk, hf⟩ := fill_row (place := (places35.toArray[·]?)) (i := 8) (off := 8) (xs := xs) (rest := [(9, .slice a n c)]) (cells := (((((((zero35.setIfInBounds 0 (.int .u32 ino)).setIfInBounds 1 (.int .u8 typ)).setIfInBounds 2 (.int .u16 perm)).setIfInBounds 3 (.int .u32 uid)).setIfInBounds 4 (.int .u32 gid)).setIfInBounds 5 (.int .u64 size)).setIfInBounds 6 (.int .i64 mtime)).setIfInBounds 7 (.int .u32 flags)) (by rw [hx]; rfl) (by simp [hz, hx])
  have hs69 : cells'.size = 69 := by rw [hs]; simp [hz]
  rw [hf, fill_one (off := 68) rfl rfl (by omega)]
  refine ⟨_, rfl, ?_, ?_, ?_⟩
  · rw [Array.getElem?_setIfInBounds, if_neg (by decide), hk 1 (by decide)]; simp [hz]
  · rw [Array.getElem?_setIfInBounds, if_neg (by decide), hk 5 (by decide)]; simp [hz]
  · rw [Array.getElem?_setIfInBounds, if_neg (by decide), hk 7 (by decide)]; simp [hz]

theorem wpList_build {ops : Array Oper} {rest : List Oper} {o : Oper} {a : Act} {w : World} {Q : Exit → Act → World → Prop} (hgd : o.guard = none) (t : TypeId) (parts : Array (Nat × Operand)) (ho : o.op = .build t parts)
    (cells : Array Value) (hc : Try.prog.built t (parts.toList.map fun (p : Nat × Operand) => (p.1, a.eval p.2)) = some cells) (h : wpList Try.prog ops Q rest (a.put o.dst (.agg cells)) w) : wpList Try.prog ops Q (o :: rest) a w := by
  refine wpList_plain hgd fun K hK => ?_
  have hc' : Try.prog.built t (parts.map fun (p : Nat × Operand) => (p.1, a.eval p.2)).toList = some cells := by rw [Array.toList_map]; exact hc
  have hr := run_build w t _ cells hc'
  unfold Oper.wp execOp
  simp only [ho, Sem.run_bind]
  rw [show (parts.map fun (x : Nat × Operand) => match x with | (i, x) => (i, a.eval x)) = (parts.map fun (p : Nat × Operand) => (p.1, a.eval p.2)) from rfl, hr]
  exact hK _ _ h

set_option maxHeartbeats 400000 in
theorem newFile (ino typ perm uid gid size mtime flags : Int) (xs : Array Value) (hx : xs.size = 60) (a : Option Addr) (n c : Nat) (w : World) :
    Calls Try.prog 6 #[.int .u32 ino, .int .u8 typ, .int .u16 perm, .int .u32 uid, .int .u32 gid, .int .u64 size, .int .i64 mtime, .int .u32 flags, .agg xs, .slice a n c] w fun e w' =>
      e = .returned (.pointer (some ⟨w.heap.size + 1, 0, none⟩)) ∧ Below w.heap.size w w' ∧ w'.cell? ⟨w.heap.size + 1, 1, none⟩ = some (.int .u8 typ) ∧ w'.cell? ⟨w.heap.size + 1, 5, none⟩ = some (.int .u64 size) ∧ w'.cell? ⟨w.heap.size + 1, 7, none⟩ = some (.int .u32 flags) := by
  have hs : (Try.prog.info? 25).map (·.size) = some xs.size := by rw [hx]; exact size25
  have HS : Hid ((Try.prog.info? 25).map (·.size) = some xs.size) := hs
  clear hs
  obtain ⟨cells, hc, h1, h5, h7⟩ := built35 ino typ perm uid gid size mtime flags xs hx a n c
  have HB : Hid _ := hc
  have HX : Hid (cells[1]? = some (.int .u8 typ) ∧ cells[5]? = some (.int .u64 size) ∧ cells[7]? = some (.int .u32 flags)) := ⟨h1, h5, h7⟩
  clear hx hc h1 h5 h7
  go_enter Try.func6, Try.ntmps6
  go_wp2_with (first | (refine wpList_load_row rfl 25 (.tmp 18) rfl w.heap.size rfl 25 xs (0, 0) _ (heap_alloc_new w _) Try.underlying25 rfl HS.out ?_) | (refine wpList_build rfl 35 _ rfl cells ?_ ?_; exact HB.out))
  go_ret
  refine ⟨rfl, ((Below.refl _ _).alloc (Nat.le_refl _) _).alloc (by simp) _, ?_, ?_, ?_⟩
  · rw [cell_of_row _ _ _ _ _ _ (heap_alloc2_new w _ _)]; exact HX.out.1
  · rw [cell_of_row _ _ _ _ _ _ (heap_alloc2_new w _ _)]; exact HX.out.2.1
  · rw [cell_of_row _ _ _ _ _ _ (heap_alloc2_new w _ _)]; exact HX.out.2.2

/-- The INLINE_DATA bit. -/
def inlB (flags : Int) : Bool := bits BinOp.and IntKind.u32 flags 268435456 != 0
def extB (flags : Int) : Bool := bits BinOp.and IntKind.u32 flags 524288 != 0
def fastB (typ size flags : Int) : Bool := (typ == 108) && !(inlB flags) && decide (size < 60)
def inlineS : ByteArray := ⟨#[105, 110, 108, 105, 110, 101, 32, 100, 97, 116, 97]⟩
def heldS (flags : Int) : ByteArray := if inlB flags then inlineS else if extB flags then ⟨#[101, 120, 116, 101, 110, 116, 115]⟩ else ⟨#[98, 108, 111, 99, 107, 32, 109, 97, 112]⟩

theorem ret_bool {a b : Bool} (h : a = b) : Ending.returned (.bool a) = .returned (.bool b) := by rw [h]

set_option maxHeartbeats 400000 in
theorem fast7 (p : Nat) (typ size flags : Int) (w : World) (fb : Bool) (h : fastB typ size flags = fb) (c1 : w.cell? ⟨p, 1, none⟩ = some (.int .u8 typ)) (c5 : w.cell? ⟨p, 5, none⟩ = some (.int .u64 size)) (c7 : w.cell? ⟨p, 7, none⟩ = some (.int .u32 flags)) :
    Calls Try.prog 7 #[.pointer (some ⟨p, 0, none⟩)] w fun e w' => e = .returned (.bool fb) ∧ w' = w := by
  have HH : Hid (fastB typ size flags = fb) := h
  clear h
  go_enter Try.func7, Try.ntmps7
  go_wp2
  all_goals
    go_ret
    refine ⟨ret_bool ?_, rfl⟩
    rw [← HH.out]
    simp_all [fastB, inlB]

theorem ret_str {a b : ByteArray} (h : a = b) : Ending.returned (.string a) = .returned (.string b) := by rw [h]

set_option maxHeartbeats 400000 in
theorem held8 (p : Nat) (flags : Int) (w : World) (c7 : w.cell? ⟨p, 7, none⟩ = some (.int .u32 flags)) :
    Calls Try.prog 8 #[.pointer (some ⟨p, 0, none⟩)] w fun e w' => e = .returned (.string (heldS flags)) ∧ w' = w := by
  go_enter Try.func8, Try.ntmps8
  go_wp2
  all_goals
    go_ret
    refine ⟨ret_str ?_, rfl⟩
    simp_all [heldS, inlB, extB, inlineS]

theorem inlB_xor (flags : Int) (h0 : 0 ≤ flags) (h1 : flags < 4294967296) : inlB (bits BinOp.xor IntKind.u32 flags 4026531839) = inlB flags := by
  unfold inlB
  obtain ⟨f, rfl⟩ := Int.eq_ofNat_of_zero_le h0
  have e1 : bits BinOp.xor IntKind.u32 (f : Int) 4026531839 = ((f ^^^ 4026531839 : Nat) : Int) := u32_xor_nat f 4026531839 (by omega) (by decide)
  have hlt : f ^^^ 4026531839 < 4294967296 := Nat.xor_lt_two_pow (n := 32) (by omega) (by decide)
  have e2 : bits BinOp.and IntKind.u32 ((f ^^^ 4026531839 : Nat) : Int) 268435456 = (((f ^^^ 4026531839) &&& 268435456 : Nat) : Int) := u32_and_nat _ 268435456 hlt (by decide)
  have e3 : bits BinOp.and IntKind.u32 (f : Int) 268435456 = ((f &&& 268435456 : Nat) : Int) := u32_and_nat f 268435456 (by omega) (by decide)
  rw [e1, e2, e3, Nat.and_xor_distrib_right, show (4026531839 &&& 268435456 : Nat) = 0 by decide, Nat.xor_zero]

theorem Try.info5 : (Try.prog.info? 5).map (fun i => (i.zero, i.size, i.bytes)) = some (some (.int .u8 0), 1, 1) := by kernel_rfl

theorem fill_step {w : World} {b : Nat} {t : TypeId} {n k : Nat} {F : Nat → Value} {z : Value} (h : w.rowIs b t n (fun j => if j < k then F j else z)) :
    (w.setCell ⟨b, k, none⟩ (F k)).rowIs b t n (fun j => if j < k + 1 then F j else z) := by
  refine (h.set k (F k)).congr fun j hj => ?_
  by_cases e : j = k
  · subst e; simp
  · simp only [if_neg e]
    by_cases l : j < k
    · rw [if_pos l, if_pos (by omega)]
    · rw [if_neg l, if_neg (by omega)]

set_option maxHeartbeats 400000 in
theorem clone_nil (w : World) :
    Calls Try.prog 5 #[.slice none 0 0] w fun e w' => e = .returned (.slice none 0 0) ∧ w' = w := by
  have hq := fun (wx : World) (a : Option Addr) (m c : Nat) => Lib.run_eql_slice_nil (P := Try.prog) wx 26 5 a m c 0 0 Try.underlying26
  go_enter Try.func5, Try.ntmps5
  go_wp2
  go_ret
  exact ⟨rfl, rfl⟩

set_option maxHeartbeats 400000 in
theorem clone_some (a : Addr) (b off n c : Nat) (f : Nat → Int) (w : World) (hn : n ≤ 1048576) (hab : 0 < n → a = ⟨b, off, none⟩)
    (hc : ∀ j, j < n → w.cell? ⟨b, off + j, none⟩ = some (.int .u8 (f j))) :
    Calls Try.prog 5 #[.slice (some a) n c] w fun e w' => e = .returned (.slice (some ⟨w.heap.size, 0, none⟩) n n) ∧ Below w.heap.size w w' := by
  have hq := fun (wx : World) (a : Option Addr) (m c : Nat) => Lib.run_eql_slice_nil (P := Try.prog) wx 26 5 a m c 0 0 Try.underlying26
  have hmk := run_make_row' (P := Try.prog) 26 5 (.int .u8 0) 1 Try.underlying26 Try.info5 rfl .i64 .i64 n (by omega) (by omega)
  go_enter Try.func5, Try.ntmps5
  go_wp2
  clear hmk hq
  go_loopw [4] (fun i wr => ∃ k : Nat, k ≤ n ∧ i = .int .i64 k ∧ Below w.heap.size w wr ∧ wr.rowIs w.heap.size 5 n (fun j => if j < k then .int .u8 (f j) else .int .u8 0)) (fun i _ => n - (intOf i).toNat)
  case atStart => exact ⟨0, Nat.zero_le _, rfl, (Below.refl _ _).alloc (Nat.le_refl _) _, (World.rowIs_made w (.int .u8 0) n 5).congr (fun i _ => by simp)⟩
  case round =>
    obtain ⟨k, hk, rfl, hb, hr⟩ := hrel
    by_cases hlt : k < n
    · obtain rfl := hab (by omega)
      have hbl : b < w.heap.size := World.block_lt_of_cell? _ _ (hc k hlt)
      have hcx : wr.cell? ⟨b, off + k, none⟩ = some (.int .u8 (f k)) := (hb.cell (p := ⟨b, off + k, none⟩) hbl).trans (hc k hlt)
      have hrc : wr.cell? ⟨w.heap.size, k, none⟩ = some (.int .u8 0) := by simpa using hr.cell hlt
      have hrf := hr.frozen k
      have R := fill_step hr
      have R2 := hb.setCell (p := ⟨w.heap.size, k, none⟩) (Nat.le_refl _) (.int .u8 (f k))
      have RH : Hid _ := And.intro R R2
      clear R R2 hr hb
      go_wp2
      go_roundw
      case rel => exact ⟨k + 1, by omega, by go_num, RH.out.2, RH.out.1⟩
      case measure => simp [intOf]; omega
    · go_wp2
      go_ret
      exact ⟨rfl, hb⟩

/-- The clone of a slice of bytes, nil or not. -/
theorem clone5 (a : Option Addr) (b off n c : Nat) (f : Nat → Int) (w : World) (hn : n ≤ 1048576) (h0 : a = none → n = 0 ∧ c = 0) (hab : 0 < n → a = some ⟨b, off, none⟩)
    (hc : ∀ j, j < n → w.cell? ⟨b, off + j, none⟩ = some (.int .u8 (f j))) :
    Calls Try.prog 5 #[.slice a n c] w fun e w' => ∃ g : Option Addr, e = .returned (.slice g n n) ∧ Below w.heap.size w w' := by
  cases a with
  | none =>
    obtain ⟨rfl, rfl⟩ := h0 rfl
    exact (clone_nil w).mono fun e w' ⟨he, hw⟩ => ⟨none, he, hw ▸ Below.refl _ _⟩
  | some a =>
    exact (clone_some a b off n c f w hn (fun h => Option.some.inj (hab h)) hc).mono fun e w' ⟨he, hb⟩ => ⟨_, he, hb⟩

set_option maxHeartbeats 400000 in
theorem bytes_yes (ino typ perm uid gid size mtime flags : Int) (xs : Array Value) (a : Option Addr) (n c : Nat) (w : World) (h : n ≤ 1048576) :
    Calls Try.prog 4 #[.int .u32 ino, .int .u8 typ, .int .u16 perm, .int .u32 uid, .int .u32 gid, .int .u64 size, .int .i64 mtime, .int .u32 flags, .agg xs, .slice a n c] w fun e w' => e = .returned (.bool true) ∧ Below w.heap.size w w' := by
  go_enter Try.func4, Try.ntmps4
  go_wp2
  go_ret
  exact ⟨rfl, (Below.refl _ _).alloc (Nat.le_refl _) _⟩

set_option maxHeartbeats 400000 in
theorem bytes_no (ino typ perm uid gid size mtime flags : Int) (xs : Array Value) (a : Option Addr) (n c : Nat) (w : World) (hn : n ≤ maxLen) (h : ¬ n ≤ 1048576) :
    Calls Try.prog 4 #[.int .u32 ino, .int .u8 typ, .int .u16 perm, .int .u32 uid, .int .u32 gid, .int .u64 size, .int .i64 mtime, .int .u32 flags, .agg xs, .slice a n c] w fun e w' => e = .returned (.bool false) ∧ Below w.heap.size w w' := by
  unfold maxLen at hn
  go_enter Try.func4, Try.ntmps4
  go_wp2
  go_ret
  exact ⟨rfl, (Below.refl _ _).alloc (Nat.le_refl _) _⟩
end Go.Proofs.Qxb6605650a
