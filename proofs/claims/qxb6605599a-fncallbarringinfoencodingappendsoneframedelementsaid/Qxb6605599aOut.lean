/-
  Seat b6605599a: the inputs that the law passes over; reading a length back.
-/
import Derived.Test.Qxb6605599aRead
import Derived.Test.Qxb6605599aCloneB
import Derived.Test.Qxb6605599aCbInfo
namespace Go.Proofs.Qxb6605599a
open Go.RowKit

set_option maxHeartbeats 400000 in
theorem bytes_yes (a a3 : Option Addr) (n c m c3 : Nat) (ss : Int) (has : Bool) (w : World) (h : n + m ≤ 1048576) :
    Calls Try.prog 4 #[.slice a n c, .int .u8 ss, .bool has, .slice a3 m c3] w fun e w' => e = .returned (.bool true) ∧ w' = w := by
  go_enter Try.func4, Try.ntmps4
  go_wp2
  go_ret
  exact ⟨rfl, rfl⟩

set_option maxHeartbeats 400000 in
theorem bytes_no (a a3 : Option Addr) (n c m c3 : Nat) (ss : Int) (has : Bool) (w : World) (hn : n ≤ maxLen) (hm : m ≤ maxLen) (h : ¬ n + m ≤ 1048576) :
    Calls Try.prog 4 #[.slice a n c, .int .u8 ss, .bool has, .slice a3 m c3] w fun e w' => e = .returned (.bool false) ∧ w' = w := by
  unfold maxLen at hn hm
  go_enter Try.func4, Try.ntmps4
  go_wp2
  all_goals (go_ret; exact ⟨rfl, rfl⟩)

set_option maxHeartbeats 400000 in
theorem law_out (a a3 : Option Addr) (n c m c3 : Nat) (ss : Int) (has : Bool) (w : World) (hn : n ≤ maxLen) (hm : m ≤ maxLen) (h : ¬ (m ≤ 131072 ∧ n + 8 * m ≤ 1048576)) :
    Calls Try.prog 3 #[.slice a n c, .int .u8 ss, .bool has, .slice a3 m c3] w fun e w' => e = .returned (.bool true) ∧ Below w.heap.size w w' := by
  by_cases hs : n + m ≤ 1048576
  · by_cases hm2 : m ≤ 131072
    · have h8 : 1048576 < n + 8 * m := by omega
      clear h
      go_enter Try.func3, Try.ntmps3
      go_wp2_with (go_at_call 4; refine (bytes_yes _ _ _ _ _ _ _ _ _ hs).mono ?_; rintro e w' ⟨rfl, rfl⟩)
      go_ret
      exact ⟨rfl, Below.refl _ _⟩
    · clear h
      go_enter Try.func3, Try.ntmps3
      go_wp2_with (go_at_call 4; refine (bytes_yes _ _ _ _ _ _ _ _ _ hs).mono ?_; rintro e w' ⟨rfl, rfl⟩)
      go_ret
      exact ⟨rfl, Below.refl _ _⟩
  · clear h
    go_enter Try.func3, Try.ntmps3
    go_wp2_with (go_at_call 4; refine (bytes_no _ _ _ _ _ _ _ _ _ hn hm hs).mono ?_; rintro e w' ⟨rfl, rfl⟩)
    go_ret
    exact ⟨rfl, Below.refl _ _⟩

/-- cbReadLength reads back the length that ber.Append has written. -/
theorem read_any (g N c : Nat) (info : List Int) (w : World) (hN : N = 1 + ((lenB info.length).length + info.length)) (hL2 : 2 ≤ info.length) (hL : info.length < 16777216)
    (hc : ∀ j y, (161 :: (lenB info.length ++ info))[j]? = some y → w.cell? ⟨g, j, none⟩ = some (.int .u8 y)) :
    Calls Try.prog 9 #[.slice (some ⟨g, 0, none⟩) N c, .int .i64 1] w fun e w' => e = .returned (.tuple #[.int .i64 (info.length : Int), .int .i64 (1 + ((lenB info.length).length : Int)), .bool true]) ∧ w' = w := by
  obtain ⟨L, hLe⟩ : ∃ L, L = info.length := ⟨_, rfl⟩
  rw [← hLe] at hN hL2 hL hc ⊢
  by_cases h0 : L < 128
  · have hB : lenB L = [(L : Int)] := by unfold lenB; rw [if_pos h0]
    rw [hB] at hN hc ⊢
    exact read_0 g N c L w (by simp at hN; omega) (by simp at hN; omega) (hc 1 L rfl) (by omega) (by omega)
  by_cases h1 : L < 256
  · have hB : lenB L = [129, (L : Int) % 256] := by unfold lenB lenK; rw [if_neg h0, if_pos h1]; simp [octs]
    rw [hB] at hN hc ⊢
    have hr := read_1 g N c ((L : Int) % 256) w (by simp at hN; omega) (by simp at hN; omega) (hc 1 _ rfl) (hc 2 _ rfl) (by omega) (by omega)
    rw [show (L : Int) % 256 = L by omega] at hr
    exact hr
  by_cases h2 : L < 65536
  · have hB : lenB L = [130, (L : Int) / 256 % 256, (L : Int) % 256] := by unfold lenB lenK; rw [if_neg h0, if_neg h1, if_pos h2]; simp [octs]
    rw [hB] at hN hc ⊢
    have hr := read_2 g N c ((L : Int) / 256 % 256) ((L : Int) % 256) w (by simp at hN; omega) (by simp at hN; omega) (hc 1 _ rfl) (hc 2 _ rfl) (hc 3 _ rfl) (by omega) (by omega) (by omega) (by omega)
    rw [show (L : Int) / 256 % 256 * 256 + (L : Int) % 256 = L by omega] at hr
    exact hr
  · have hB : lenB L = [131, (L : Int) / 65536 % 256, (L : Int) / 256 % 256, (L : Int) % 256] := by unfold lenB lenK; rw [if_neg h0, if_neg h1, if_neg h2]; simp [octs]
    rw [hB] at hN hc ⊢
    have hr := read_3 g N c ((L : Int) / 65536 % 256) ((L : Int) / 256 % 256) ((L : Int) % 256) w (by simp at hN; omega) (by simp at hN; omega) (hc 1 _ rfl) (hc 2 _ rfl) (hc 3 _ rfl) (hc 4 _ rfl) (by omega) (by omega) (by omega) (by omega) (by omega) (by omega)
    rw [show ((L : Int) / 65536 % 256 * 256 + (L : Int) / 256 % 256) * 256 + (L : Int) % 256 = L by omega] at hr
    exact hr
end Go.Proofs.Qxb6605599a
