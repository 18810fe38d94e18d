/-
  The walks of seat b6614420aF: the law 'FnStringListTakesOnlyNullAndLists' and every project function on her road, callees first. fmt is never reached on this road: the only lists handed to 'stringList' hold strings.
-/
import Derived.Test.Qxb6614420aFmtRows
import Derived.WalkKit
import Derived.WalkSpells
import Derived.WalkLawsBesides
import Derived.Deep.QuietTactic
import Derived.BigQuiet
import Derived.RegionTactic
namespace Go.Proofs.Qxb6614420aFmt
open Go.RowKit

theorem ta9 (s : ByteArray) : ∀ w, (Instr.typeAssert (.iface 9 (.string s)) 20 34 true).run Tryf.prog w = .ok (.tuple #[.slice none 0 0, .bool false]) w := fun _ => by kernel_rfl
theorem ta3 (n : Int) : ∀ w, (Instr.typeAssert (.iface 3 (.int .i64 n)) 20 34 true).run Tryf.prog w = .ok (.tuple #[.slice none 0 0, .bool false]) w := fun _ => by kernel_rfl
theorem ta34 (a : Option Addr) (l c : Nat) : ∀ w, (Instr.typeAssert (.iface 34 (.slice a l c)) 20 34 true).run Tryf.prog w = .ok (.tuple #[.slice a l c, .bool true]) w := fun _ => by kernel_rfl
theorem tas (s : ByteArray) : ∀ w, (Instr.typeAssert (.iface 9 (.string s)) 20 9 true).run Tryf.prog w = .ok (.tuple #[.string s, .bool true]) w := fun _ => by kernel_rfl
theorem mk0 : ∀ w, (Instr.makeSlice 23 (.int .i64 0) (.int .i64 0)).run Tryf.prog w = .ok (.slice (some ⟨w.heap.size, 0, none⟩) 0 0) (w.alloc (.cells #[] 9)) := fun _ => by kernel_rfl
theorem mk1 : ∀ w, (Instr.makeSlice 23 (.int .i64 1) (.int .i64 1)).run Tryf.prog w = .ok (.slice (some ⟨w.heap.size, 0, none⟩) 1 1) (w.alloc (.cells #[.string ByteArray.empty] 9)) := fun _ => by kernel_rfl
theorem mk2 : ∀ w, (Instr.makeSlice 34 (.int .i64 0) (.int .i64 0)).run Tryf.prog w = .ok (.slice (some ⟨w.heap.size, 0, none⟩) 0 0) (w.alloc (.cells #[] 20)) := fun _ => by kernel_rfl
theorem mk3 : ∀ w, (Instr.makeSlice 34 (.int .i64 1) (.int .i64 1)).run Tryf.prog w = .ok (.slice (some ⟨w.heap.size, 0, none⟩) 1 1) (w.alloc (.cells #[.nilIface] 20)) := fun _ => by kernel_rfl

set_option maxHeartbeats 400000 in
theorem sl_nil (w : World) :
    Calls Tryf.prog 9 #[.nilIface] w fun e w' => e = .returned (.tuple #[.slice none 0 0, .nilIface]) ∧ w' = w := by
  go_enter Tryf.func9, Tryf.ntmps9
  go_wp2
  go_ret2
  exact ⟨rfl, rfl⟩

set_option maxHeartbeats 400000 in
theorem sl_str (s : ByteArray) (w : World) :
    Calls Tryf.prog 9 #[.iface 9 (.string s)] w fun e w' => e = .returned (.tuple #[.slice none 0 0, .iface 39 (.pointer (some ⟨w.heap.size, 0, none⟩))]) ∧ Below w.heap.size w w' := by
  have h1 := ta9 s
  go_enter Tryf.func9, Tryf.ntmps9
  go_wp2
  go_ret2
  exact ⟨rfl, (Below.refl _ _).alloc (Nat.le_refl _) _⟩
set_option maxHeartbeats 400000 in
theorem sl_int (n : Int) (w : World) :
    Calls Tryf.prog 9 #[.iface 3 (.int .i64 n)] w fun e w' => e = .returned (.tuple #[.slice none 0 0, .iface 39 (.pointer (some ⟨w.heap.size, 0, none⟩))]) ∧ Below w.heap.size w w' := by
  have h1 := ta3 n
  go_enter Tryf.func9, Tryf.ntmps9
  go_wp2
  go_ret2
  exact ⟨rfl, (Below.refl _ _).alloc (Nat.le_refl _) _⟩
set_option maxHeartbeats 400000 in
theorem sl_empty (a : Option Addr) (w : World) :
    Calls Tryf.prog 9 #[.iface 34 (.slice a 0 0)] w fun e w' => e = .returned (.tuple #[.slice (some ⟨w.heap.size, 0, none⟩) 0 0, .nilIface]) ∧ Below w.heap.size w w' := by
  have h1 := ta34 a 0 0
  have h2 := mk0
  go_enter Tryf.func9, Tryf.ntmps9
  go_wp2
  refine wp_loop_rounds 1 ?_
  rw [rounds_succ]
  go_wp2
  go_ret2
  exact ⟨rfl, (Below.refl _ _).alloc (Nat.le_refl _) _⟩
set_option maxHeartbeats 400000 in
theorem sl_one (b : Nat) (s : ByteArray) (w : World) (hb : b < w.heap.size) (hc : w.cell? ⟨b, 0, none⟩ = some (.iface 9 (.string s))) :
    Calls Tryf.prog 9 #[.iface 34 (.slice (some ⟨b, 0, none⟩) 1 1)] w fun e w' => e = .returned (.tuple #[.slice (some ⟨w.heap.size, 0, none⟩) 1 1, .nilIface]) ∧ Below w.heap.size w w' ∧ w'.cell? ⟨w.heap.size, 0, none⟩ = some (.string s) := by
  have h1 := ta34 (some ⟨b, 0, none⟩) 1 1
  have h2 := mk1
  have h3 := tas s
  go_enter Tryf.func9, Tryf.ntmps9
  go_wp2
  refine wp_loop_rounds 2 ?_
  rw [rounds_succ]
  go_wp2
  rw [rounds_succ]
  go_wp2
  go_ret2
  exact ⟨rfl, (Below.refl _ _).alloc (Nat.le_refl _) _, by simp⟩
set_option maxHeartbeats 400000 in
theorem zz_nil (w : World) :
    Calls Tryf.prog 5 #[] w fun e w' => e = .returned (.tuple #[.slice none 0 0, .bool false]) ∧ Below w.heap.size w w' := by
  go_enter Tryf.func5, Tryf.ntmps5
  go_wp2_with (go_at_call 9; refine (sl_nil _).mono ?_; rintro e w' ⟨rfl, rfl⟩)
  go_region
  all_goals (go_wp2; go_ret2; exact ⟨rfl, (Below.refl _ _).drew⟩)
set_option maxHeartbeats 400000 in
theorem zz_text (s : ByteArray) (w : World) :
    Calls Tryf.prog 6 #[.string s] w fun e w' => e = .returned (.tuple #[.slice none 0 0, .bool true]) ∧ Below w.heap.size w w' := by
  go_enter Tryf.func6, Tryf.ntmps6
  go_wp2_with (go_at_call 9; refine (sl_str _ _).mono ?_; rintro e w' ⟨rfl, hb⟩)
  go_region
  all_goals (go_wp2; go_ret2; exact ⟨rfl, hb.drew⟩)
set_option maxHeartbeats 400000 in
theorem zz_num (n : Int) (w : World) :
    Calls Tryf.prog 7 #[.int .i64 n] w fun e w' => e = .returned (.tuple #[.slice none 0 0, .bool true]) ∧ Below w.heap.size w w' := by
  go_enter Tryf.func7, Tryf.ntmps7
  go_wp2_with (go_at_call 9; refine (sl_int _ _).mono ?_; rintro e w' ⟨rfl, hb⟩)
  go_region
  all_goals (go_wp2; go_ret2; exact ⟨rfl, hb.drew⟩)
set_option maxHeartbeats 400000 in
theorem zz_none (w : World) :
    Calls Tryf.prog 8 #[.slice none 0 0, .slice none 0 0] w fun e w' => ∃ b, e = .returned (.tuple #[.slice (some ⟨b, 0, none⟩) 0 0, .bool false]) ∧ Below w.heap.size w w' := by
  have h2 := mk2
  go_enter Tryf.func8, Tryf.ntmps8
  go_wp2
  refine wp_loop_rounds 1 ?_
  rw [rounds_succ]
  go_wp2_with (go_at_call 9; refine (sl_empty _ _).mono ?_; rintro e w' ⟨rfl, hb⟩)
  go_region
  all_goals (go_wp2; go_ret2; exact ⟨_, rfl, (((Below.refl _ w).alloc (Nat.le_refl _) _).trans (hb.mono (by simp))).drew⟩)
set_option maxHeartbeats 400000 in
theorem zz_one (b : Nat) (s : ByteArray) (w : World) (hb : b < w.heap.size) (hc : w.cell? ⟨b, 0, none⟩ = some (.string s)) :
    Calls Tryf.prog 8 #[.slice (some ⟨b, 0, none⟩) 1 1, .slice none 0 0] w fun e w' => ∃ g, e = .returned (.tuple #[.slice (some ⟨g, 0, none⟩) 1 1, .bool false]) ∧ Below w.heap.size w w' ∧ w'.cell? ⟨g, 0, none⟩ = some (.string s) := by
  have h2 := mk3
  go_enter Tryf.func8, Tryf.ntmps8
  go_wp2
  refine wp_loop_rounds 2 ?_
  rw [rounds_succ]
  go_wp2
  rw [rounds_succ]
  go_wp2_with fail
  refine (sl_one _ s _ (by simp) (by simp)).mono ?_
  rintro e w1 ⟨rfl, hb1, hc1⟩
  go_wp2
  go_region
  all_goals (go_wp2; go_ret2; exact ⟨_, rfl, (((Below.refl _ w).alloc (Nat.le_refl _) _).trans (hb1.mono (by simp))).drew, by simpa using hc1⟩)

set_option maxHeartbeats 400000 in
theorem zzBytes_yes (s : ByteArray) (n : Int) (w : World) (h : s.size ≤ 1048576) :
    Calls Tryf.prog 4 #[.string s, .int .i64 n] w fun e w' => e = .returned (.bool true) ∧ w' = w := by
  go_enter Tryf.func4, Tryf.ntmps4
  go_wp2
  go_ret
  exact ⟨rfl, rfl⟩
set_option maxHeartbeats 400000 in
theorem zzBytes_no (s : ByteArray) (n : Int) (w : World) (hs : s.size ≤ maxLen) (h : ¬ s.size ≤ 1048576) :
    Calls Tryf.prog 4 #[.string s, .int .i64 n] w fun e w' => e = .returned (.bool false) ∧ w' = w := by
  unfold maxLen at hs
  go_enter Tryf.func4, Tryf.ntmps4
  go_wp2
  go_ret
  exact ⟨rfl, rfl⟩

set_option maxHeartbeats 400000 in
theorem law_big (s : ByteArray) (n : Int) (w : World) (hs : s.size ≤ maxLen) (h : ¬ s.size ≤ 1048576) :
    Calls Tryf.prog 3 #[.string s, .int .i64 n] w fun e w' => e = .returned (.bool true) ∧ Below w.heap.size w w' := by
  go_enter Tryf.func3, Tryf.ntmps3
  go_wp2_with (go_at_call 4; refine (zzBytes_no s n _ hs h).mono ?_; rintro e w' ⟨rfl, rfl⟩)
  go_ret
  exact ⟨rfl, Below.refl _ _⟩

set_option maxHeartbeats 400000 in
theorem law_small (s : ByteArray) (n : Int) (w : World) (h : s.size ≤ 1048576) :
    Calls Tryf.prog 3 #[.string s, .int .i64 n] w fun e w' => e = .returned (.bool true) ∧ Below w.heap.size w w' := by
  have hq := fun (wx : World) (a : Option Addr) (m c : Nat) => Lib.run_eql_slice_nil (P := Tryf.prog) wx 23 9 a m c 0 0 Tryf.underlying23
  go_enter Tryf.func3, Tryf.ntmps3
  go_wp2_with (go_at_call 4; refine (zzBytes_yes s n _ h).mono ?_; rintro e w' ⟨rfl, rfl⟩)
  refine (zz_nil _).mono ?_
  rintro e w1 ⟨rfl, hb1⟩
  go_wp2_with fail
  refine (zz_text _ _).mono ?_
  rintro e w2 ⟨rfl, hb2⟩
  go_wp2_with fail
  refine (zz_num _ _).mono ?_
  rintro e w3 ⟨rfl, hb3⟩
  go_wp2_with fail
  refine (zz_none _).mono ?_
  rintro e w4 ⟨g, rfl, hb4⟩
  go_wp2_with fail
  refine (zz_one _ s _ (by simp) (by simp)).mono ?_
  rintro e w5 ⟨g5, rfl, hb5, hc5⟩
  go_wp2
  go_ret
  refine ⟨by simp, ?_⟩
  have hb5' : Below w4.heap.size w4 w5 := ((Below.refl _ w4).alloc (Nat.le_refl _) _).trans (hb5.mono (by simp))
  exact hb1.trans ((hb2.mono hb1.size).trans ((hb3.mono (Nat.le_trans hb1.size hb2.size)).trans ((hb4.mono (Nat.le_trans hb1.size (Nat.le_trans hb2.size hb3.size))).trans (hb5'.mono (Nat.le_trans hb1.size (Nat.le_trans hb2.size (Nat.le_trans hb3.size hb4.size)))))))
end Go.Proofs.Qxb6614420aFmt
