/-
  Seat b6605599a: the clone of a slice of bytes ('make', then 'copy').
-/
import Derived.Test.Qxb6605599aInfo
import Derived.Laws.CopyOwn
namespace Go.Proofs.Qxb6605599a
open Go.RowKit

theorem size5 : (Try.prog.info? 5).map (·.size) = some 1 := by kernel_rfl

set_option maxHeartbeats 400000 in
theorem cloneB_nil (w : World) :
    Calls Try.prog 5 #[.slice none 0 0] w fun e w' => e = .returned (.slice none 0 0) ∧ w' = w := by
  have hq := fun (wx : World) (a : Option Addr) (m c : Nat) => Lib.run_eql_slice_nil (P := Try.prog) wx 22 5 a m c 0 0 Try.underlying22
  go_enter Try.func5, Try.ntmps5
  go_wp2
  go_ret
  exact ⟨rfl, rfl⟩

theorem own_row {w : World} {B g n : Nat} {xs : List Int} (hl : xs.length = n) (hB : B ≤ g) (hn : n ≤ maxLen) (hg : w.heap[g]? = some (.cells (xs.map (Value.int .u8)).toArray 5 (0, 0))) : Own B w (.slice (some ⟨g, 0, none⟩) n n) xs := by
  subst hl
  exact ⟨by simp, .inr ⟨g, xs.length, _, rfl, hB, hg, Nat.le_refl _, hn, by simp, by simp [List.take_of_length_le]⟩⟩

theorem made_row (w : World) (n : Nat) : (w.alloc (.cells (madeCells #[Value.int .u8 0] n) 5)).heap[w.heap.size]? = some (.cells (madeCells #[Value.int .u8 0] n).toList.toArray 5 (0, 0)) := by
  rw [Array.toArray_toList]
  exact heap_alloc_new w _

theorem copy_run (a : Addr) (b off n c : Nat) (xs : List Int) (w : World) (hn : n ≤ 1048576) (hl : xs.length = n) (hab : 0 < n → a = ⟨b, off, none⟩)
    (hc : ∀ j y, xs[j]? = some y → w.cell? ⟨b, off + j, none⟩ = some (.int .u8 y)) :
    ∃ w2, (Builtin.copy_ #[22, 22] 3 #[.slice (some ⟨w.heap.size, 0, none⟩) n n, .slice (some a) n c]).run Try.prog (w.alloc (.cells (madeCells #[Value.int .u8 0] n) 5)) = .ok (goInt n) w2 ∧
      Own w.heap.size w2 (.slice (some ⟨w.heap.size, 0, none⟩) n n) xs ∧ Below w.heap.size w w2 := by
  have hml : n ≤ maxLen := by unfold maxLen; omega
  have hms : (madeCells #[Value.int .u8 0] n).size = n := size_madeCells _ _
  have hb0 : Below w.heap.size w (w.alloc (.cells (madeCells #[Value.int .u8 0] n) 5)) := (Below.refl _ _).alloc (Nat.le_refl _) _
  by_cases h0 : n = 0
  · subst h0
    obtain rfl : xs = [] := List.eq_nil_of_length_eq_zero hl
    refine ⟨_, run_copy_none (P := Try.prog) _ 22 22 3 5 _ _ 0 0 0 c Try.underlying22 size5 rfl, own_row rfl (Nat.le_refl _) hml ?_, hb0⟩
    have hz : madeCells #[Value.int .u8 0] 0 = #[] := Array.eq_empty_of_size_eq_zero hms
    rw [hz]
    exact heap_alloc_new w _
  · obtain rfl := hab (by omega)
    have hcl : (xs.map (Value.int .u8)).length = n := by simp [hl]
    have hr := run_copy_row (P := Try.prog) (w.alloc (.cells (madeCells #[Value.int .u8 0] n) 5)) 22 22 3 5 w.heap.size 0 n n ⟨b, off, none⟩ n c (madeCells #[Value.int .u8 0] n) 5 (xs.map (Value.int .u8)) Try.underlying22 size5 (heap_alloc_new w _)
      (by rw [hcl]; exact (Nat.min_self n).symm) (fun j u hu => by
        rw [List.getElem?_map] at hu
        obtain ⟨y, hy, rfl⟩ := Option.map_eq_some_iff.1 hu
        have hlt := World.block_lt_of_cell? _ _ (hc j y hy)
        rw [show (⟨b, off, none⟩ : Addr).add j = ⟨b, off + j, none⟩ by unfold Addr.add; split <;> simp_all]
        exact (hb0.cell (p := ⟨b, off + j, none⟩) hlt).trans (hc j y hy)) (by rw [hcl, hms]; omega) (fun u hu => by
        obtain ⟨y, _, rfl⟩ := List.mem_map.1 hu
        rfl)
    rw [hcl] at hr
    refine ⟨_, hr, own_row hl (Nat.le_refl _) hml ?_, below_setRow hb0 (Nat.le_refl _) _⟩
    rw [setRow_heap _ _ _ _ 5 (0, 0) (heap_alloc_new w _)]
    have : (madeCells #[Value.int .u8 0] n).toList.drop (0 + n) = [] := by rw [List.drop_eq_nil_iff]; simp [hms]
    rw [this]
    simp

set_option maxHeartbeats 400000 in
theorem cloneB_some (a : Addr) (b off n c : Nat) (xs : List Int) (w : World) (hn : n ≤ 1048576) (hl : xs.length = n) (hab : 0 < n → a = ⟨b, off, none⟩)
    (hc : ∀ j y, xs[j]? = some y → w.cell? ⟨b, off + j, none⟩ = some (.int .u8 y)) :
    Calls Try.prog 5 #[.slice (some a) n c] w fun e w' => e = .returned (.slice (some ⟨w.heap.size, 0, none⟩) n n) ∧ Own w.heap.size w' (.slice (some ⟨w.heap.size, 0, none⟩) n n) xs ∧ Below w.heap.size w w' := by
  have hq := fun (wx : World) (a : Option Addr) (m c : Nat) => Lib.run_eql_slice_nil (P := Try.prog) wx 22 5 a m c 0 0 Try.underlying22
  have hmk := run_make_row' (P := Try.prog) 22 5 (.int .u8 0) 1 Try.underlying22 Try.info5 rfl .i64 .i64 n (by omega) (by omega)
  obtain ⟨w2, hcp, ho, hb⟩ := copy_run a b off n c xs w hn hl hab hc
  have HO : Hid (Own w.heap.size w2 (.slice (some ⟨w.heap.size, 0, none⟩) n n) xs ∧ Below w.heap.size w w2) := ⟨ho, hb⟩
  clear ho hb hl hab hc
  go_enter Try.func5, Try.ntmps5
  go_wp2
  go_ret
  exact ⟨rfl, HO.out.1, HO.out.2⟩

/-- The clone of a slice of bytes, nil or not. -/
theorem cloneB (a : Option Addr) (b off n c : Nat) (xs : List Int) (w : World) (hn : n ≤ 1048576) (hl : xs.length = n) (h0 : a = none → n = 0 ∧ c = 0) (hab : 0 < n → a = some ⟨b, off, none⟩)
    (hc : ∀ j y, xs[j]? = some y → w.cell? ⟨b, off + j, none⟩ = some (.int .u8 y)) :
    Calls Try.prog 5 #[.slice a n c] w fun e w' => ∃ ga, e = .returned (.slice ga n n) ∧ Own w.heap.size w' (.slice ga n n) xs ∧ Below w.heap.size w w' := by
  cases a with
  | none =>
    obtain ⟨rfl, rfl⟩ := h0 rfl
    obtain rfl : xs = [] := List.eq_nil_of_length_eq_zero hl
    exact (cloneB_nil w).mono fun e w' ⟨he, hw⟩ => ⟨none, he, Own.nil _ _, hw ▸ Below.refl _ _⟩
  | some a =>
    exact (cloneB_some a b off n c xs w hn hl (fun h => Option.some.inj (hab h)) hc).mono fun e w' ⟨he, ho, hb⟩ => ⟨_, he, ho, hb⟩
end Go.Proofs.Qxb6605599a
