/-
  Seat b6605599a: how many octets a tag and a length take.
-/
import Derived.Test.Qxb6605599aBits
import Derived.WalkKit
import Derived.WalkSpells
import Derived.WalkLawsBesides
namespace Go.Proofs.Qxb6605599a
open Go.RowKit

theorem bitLen_pos (x : Nat) (h : 0 < x) (hx : x < 18446744073709551616) : 1 ≤ Lib.bitLen x := by
  rw [Lib.bitLen_half x (by omega) hx]; omega
theorem bitLen_a (x : Nat) (h0 : 0 < x) (h1 : x < 256) : 1 ≤ Lib.bitLen x ∧ Lib.bitLen x ≤ 8 := ⟨bitLen_pos x h0 (by omega), Lib.bitLen_le x 8 (by omega) h1⟩
theorem bitLen_b (x : Nat) (h0 : 256 ≤ x) (h1 : x < 65536) : 9 ≤ Lib.bitLen x ∧ Lib.bitLen x ≤ 16 := by
  have h2 := Lib.bitLen_shift8 x h0 (by omega)
  have h3 := bitLen_a (x / 256) (by omega) (by omega)
  omega
theorem bitLen_c (x : Nat) (h0 : 65536 ≤ x) (h1 : x < 16777216) : 17 ≤ Lib.bitLen x ∧ Lib.bitLen x ≤ 24 := by
  have h2 := Lib.bitLen_shift16 x h0 (by omega)
  have h3 := bitLen_a (x / 65536) (by omega) (by omega)
  omega

set_option maxHeartbeats 400000 in
theorem firstShift_a (t : Int) (w : World) (h0 : 1 ≤ t) (h1 : t < 256) :
    Calls Try.prog 14 #[.int .u32 t] w fun e w' => e = .returned (.int .i64 0) ∧ w' = w := by
  have hb := bitLen_a t.toNat (by omega) (by omega)
  obtain ⟨L, hL⟩ : ∃ L : Nat, L = Lib.bitLen t.toNat := ⟨_, rfl⟩
  rw [← hL] at hb
  obtain ⟨hb1, hb2⟩ := hb
  have hc : ∀ w : World, Calls Try.prog 16 #[.int .u32 t] w fun e w' => e = .returned (.int .i64 L) ∧ w' = w := fun w => by rw [hL]; exact Try.bits_Len32 t w (by omega) (by omega)
  have HC : Hid (∀ w : World, Calls Try.prog 16 #[.int .u32 t] w fun e w' => e = .returned (.int .i64 L) ∧ w' = w) := hc
  clear hc hL
  have hq : ((L : Int) - 1) / 8 = 0 := by omega
  go_enter Try.func14, Try.ntmps14
  go_wp2_with (go_at_call 16; refine (HC.out _).mono ?_; rintro e w' ⟨rfl, rfl⟩)
  go_ret
  exact ⟨rfl, rfl⟩

set_option maxHeartbeats 400000 in
theorem firstShift_b (t : Int) (w : World) (h0 : 256 ≤ t) (h1 : t < 65536) :
    Calls Try.prog 14 #[.int .u32 t] w fun e w' => e = .returned (.int .i64 8) ∧ w' = w := by
  have hb := bitLen_b t.toNat (by omega) (by omega)
  obtain ⟨L, hL⟩ : ∃ L : Nat, L = Lib.bitLen t.toNat := ⟨_, rfl⟩
  rw [← hL] at hb
  obtain ⟨hb1, hb2⟩ := hb
  have hc : ∀ w : World, Calls Try.prog 16 #[.int .u32 t] w fun e w' => e = .returned (.int .i64 L) ∧ w' = w := fun w => by rw [hL]; exact Try.bits_Len32 t w (by omega) (by omega)
  have HC : Hid (∀ w : World, Calls Try.prog 16 #[.int .u32 t] w fun e w' => e = .returned (.int .i64 L) ∧ w' = w) := hc
  clear hc hL
  have hq : ((L : Int) - 1) / 8 = 1 := by omega
  go_enter Try.func14, Try.ntmps14
  go_wp2_with (go_at_call 16; refine (HC.out _).mono ?_; rintro e w' ⟨rfl, rfl⟩)
  go_ret
  exact ⟨rfl, rfl⟩
end Go.Proofs.Qxb6605599a
