/-
  Seat b6605599a: ber.Append at contents of 128 bytes and more.
-/
import Derived.Test.Qxb6605599aShort
namespace Go.Proofs.Qxb6605599a
open Go.RowKit

/-- How many octets ber.Append reckons for a length. -/
theorem len_octets (m : Nat) (h0 : 128 ≤ m) (h1 : m < 16777216) : ∃ L : Nat, (∀ w : World, Calls Try.prog 15 #[.int .u64 (m : Int)] w fun e w' => e = .returned (.int .i64 L) ∧ w' = w) ∧ L ≤ 24 ∧ ((L : Int) + 7) / 8 = (lenK m : Int) := by
  refine ⟨Lib.bitLen m, fun w => ?_, ?_⟩
  · have := Try.bits_Len (m : Int) w (by omega) (by omega)
    rwa [Int.toNat_natCast] at this
  · unfold lenK
    by_cases a : m < 256
    · rw [if_pos a]
      have := bitLen_a m (by omega) a
      omega
    · rw [if_neg a]
      by_cases b : m < 65536
      · rw [if_pos b]
        have := bitLen_b m (by omega) b
        omega
      · rw [if_neg b]
        have := bitLen_c m (by omega) h1
        omega

theorem tlv_long {t : Int} {cs : List Int} (h : ¬ cs.length < 128) : tlv t cs = octs t (tagK t) ++ ((128 + (lenK cs.length : Int)) :: octs (cs.length : Int) (lenK cs.length) ++ cs) := by
  unfold tlv lenB
  rw [if_neg h]

set_option maxHeartbeats 2000000 in
set_option maxRecDepth 100000 in
theorem append_long (B : Nat) (w : World) (v : Value) (xs : List Int) (t : Int) (b m cc : Nat) (cs : List Int) (h0 : 1 ≤ t) (h1 : t < 65536) (hown : Own B w v xs) (hB : B ≤ w.heap.size)
    (hr : Reads w (.slice (some ⟨b, 0, none⟩) m cc) cs) (hm : cs.length = m) (hne : ∀ k, (Value.slice (some ⟨b, 0, none⟩) m cc).ownBlock = some k → v.ownBlock ≠ some k) (hb : xs.length + m ≤ 536870912) (hs : 128 ≤ m) (hs2 : m < 16777216) :
    Calls Try.prog 13 #[v, .int .u32 t, .slice (some ⟨b, 0, none⟩) m cc] w fun e w' => ∃ v', e = .returned v' ∧ Own B w' v' (xs ++ tlv t cs) ∧ Step xs.length w w' v v' := by
  have hK := tagK_le t
  obtain ⟨K, hKe⟩ : ∃ K, K = tagK t := ⟨_, rfl⟩
  have HC : Hid (∀ w : World, Calls Try.prog 14 #[.int .u32 t] w fun e w' => e = .returned (.int .i64 (8 * (K : Int) - 8)) ∧ w' = w) := fun w => by rw [hKe]; exact firstShift t w h0 h1
  rw [← hKe] at hK
  have HK : Hid (K = tagK t) := hKe
  clear hKe
  obtain ⟨hK1, hK2⟩ := hK
  obtain ⟨L, hL, hL24, hLK⟩ := len_octets m hs hs2
  have HL : Hid (∀ w : World, Calls Try.prog 15 #[.int .u64 (m : Int)] w fun e w' => e = .returned (.int .i64 L) ∧ w' = w) := hL
  clear hL
  obtain ⟨J, hJe⟩ : ∃ J, J = lenK m := ⟨_, rfl⟩
  rw [← hJe] at hLK
  have HJ : Hid (J = lenK m) := hJe
  have hJ := lenK_le m
  rw [← hJe] at hJ
  obtain ⟨hJ1, hJ3⟩ := hJ
  clear hJe
  have HR : Hid (Reads w (.slice (some ⟨b, 0, none⟩) m cc) cs ∧ cs.length = m ∧ ∀ k, (Value.slice (some ⟨b, 0, none⟩) m cc).ownBlock = some k → v.ownBlock ≠ some k) := ⟨hr, hm, hne⟩
  clear hr hm hne
  go_enter Try.func13, Try.ntmps13
  go_wp2_with (go_at_call 14; refine (HC.out _).mono ?_; rintro e w' ⟨rfl, rfl⟩)
  clear HC
  go_loopw [0, 7] (fun u s wr => ∃ (r : Nat) (pre : List Int), r ≤ K ∧ s = .int .i64 (8 * (r : Int) - 8) ∧ Hid (pre ++ octs t r = octs t K) ∧ Own B wr u (xs ++ pre) ∧ Step xs.length w' wr v u) (fun _ s _ => ((intOf s + 8) / 8).toNat)
  case atStart => exact ⟨K, [], Nat.le_refl _, rfl, rfl, by simpa using hown, Step.refl hown⟩
  case round =>
    obtain ⟨r, pre, hr, rfl, HP, hu, hst⟩ := hrel
    have hpl := octs_len HP
    have hBr : B ≤ wr.heap.size := Nat.le_trans hB hst.grown.size
    match r, hr, HP, hpl with
    | 0, hr, HP, hpl =>
      have tok1 : True := trivial
      go_wp2_with fail
      refine (HL.out _).mono ?_
      rintro e w1 ⟨rfl, rfl⟩
      clear HL
      go_wp2_with (at_builtin; have _t := tok1; refine wpList_app rfl (.tmp 38) (.tmp 42) rfl B (v := u0) rfl (hu.alloc _) ⟨w1.heap.size, 0, none⟩ 1 1 (news := [128 + (J : Int)]) rfl rfl (one_new _ _) (by simp; omega) (by simp; omega) ?_; intro v1 w2 ho1 hs1; clear tok1)
      have hst1 := hst.app hs1 (Nat.le_refl _)
      clear hs1 hst hu
      obtain ⟨ys, HY⟩ : ∃ ys, Hid (ys = xs ++ pre ++ [128 + (J : Int)]) := ⟨_, rfl⟩
      rw [← HY.out] at ho1
      have hyl : ys.length ≤ xs.length + 3 := by rw [HY.out]; simp; omega
      have hyx : xs.length ≤ ys.length := by rw [HY.out]; simp
      obtain ⟨wo, rfl⟩ : ∃ wo : World, wo = w1 := ⟨_, rfl⟩
      go_loopw [0, 10] (fun u s wr => ∃ (r : Nat) (pre : List Int), r ≤ J ∧ s = .int .i64 (8 * (r : Int) - 8) ∧ Hid (pre ++ octs (m : Int) r = octs (m : Int) J) ∧ Own B wr u (ys ++ pre) ∧ Step xs.length w' wr v u) (fun _ s _ => ((intOf s + 8) / 8).toNat)
      case atStart => exact ⟨J, [], Nat.le_refl _, by go_num, rfl, by simpa using ho1, hst1⟩
      case round =>
        clear hst1 ho1
        obtain ⟨r2, pre2, hr2, rfl, HP2, hu2, hst2⟩ := hrel
        have hpl2 := octs_len HP2
        have hBr2 : B ≤ wr.heap.size := Nat.le_trans hB hst2.grown.size
        match r2, hr2, HP2, hpl2 with
        | 0, hr2, HP2, hpl2 =>
          have HRx : Hid _ := (hst2.reads HR.out.1 HR.out.2.2).cells
          go_wp2_with (at_builtin; refine wpList_app rfl (.tmp 58) (.tmp 59) rfl B rfl hu2 ⟨b, 0, none⟩ m cc (news := cs) rfl HR.out.2.1 HRx.out (by simp; omega) hBr2 ?_; intro v2 w3 ho2 hs2)
          go_ret
          refine ⟨_, rfl, ?_, hst2.trans hs2 (by simp; omega)⟩
          rw [tlv_long (by rw [HR.out.2.1]; omega), HR.out.2.1, ← HK.out, ← HJ.out, ← octs_done HP, ← octs_done HP2]
          have : xs ++ (pre ++ ((128 + (J : Int)) :: pre2 ++ cs)) = ys ++ pre2 ++ cs := by rw [HY.out]; simp
          rw [this]
          exact ho2
        | 1, hr2, HP2, hpl2 =>
          go_wp2_with (at_builtin; refine wpList_app rfl (.tmp 51) (.tmp 56) rfl B rfl (hu2.alloc _) ⟨wr.heap.size, 0, none⟩ 1 1 (news := [(m : Int) % 256]) rfl rfl (one_new _ _) (by simp; omega) (by simp; omega) ?_; intro v2 w3 ho2 hs2)
          go_roundw
          case rel => exact ⟨0, pre2 ++ [(m : Int) % 256], by omega, by go_num, octs_next HP2 (by simp), by rw [← List.append_assoc]; exact ho2, (hst2.alloc _).trans hs2 (by simp; omega)⟩
          case measure => simp [intOf]
        | 2, hr2, HP2, hpl2 =>
          go_wp2_with (at_builtin; refine wpList_app rfl (.tmp 51) (.tmp 56) rfl B rfl (hu2.alloc _) ⟨wr.heap.size, 0, none⟩ 1 1 (news := [(m : Int) / 256 % 256]) rfl rfl (one_new _ _) (by simp; omega) (by simp; omega) ?_; intro v2 w3 ho2 hs2)
          go_roundw
          case rel => exact ⟨1, pre2 ++ [(m : Int) / 256 % 256], by omega, by go_num, octs_next HP2 (by simp), by rw [← List.append_assoc]; exact ho2, (hst2.alloc _).trans hs2 (by simp; omega)⟩
          case measure => simp [intOf]
        | 3, hr2, HP2, hpl2 =>
          go_wp2_with (at_builtin; refine wpList_app rfl (.tmp 51) (.tmp 56) rfl B rfl (hu2.alloc _) ⟨wr.heap.size, 0, none⟩ 1 1 (news := [(m : Int) / 65536]) rfl rfl (one_new _ _) (by simp; omega) (by simp; omega) ?_; intro v2 w3 ho2 hs2)
          go_roundw
          case rel => exact ⟨2, pre2 ++ [(m : Int) / 65536], by omega, by go_num, octs_next HP2 (by simp; omega), by rw [← List.append_assoc]; exact ho2, (hst2.alloc _).trans hs2 (by simp; omega)⟩
          case measure => simp [intOf]
        | r + 4, hr2, HP2, hpl2 => exact absurd hr2 (by omega)
    | 1, hr, HP, hpl =>
      go_wp2_with (at_builtin; refine wpList_app rfl (.tmp 17) (.tmp 22) rfl B (v := u0) rfl (hu.alloc _) ⟨wr.heap.size, 0, none⟩ 1 1 (news := [t % 256]) rfl rfl (one_new _ _) (by simp; omega) (by simp; omega) ?_; intro v1 w1 ho1 hs1)
      go_roundw
      case rel => exact ⟨0, pre ++ [t % 256], by omega, by go_num, octs_next HP (by simp), by rw [← List.append_assoc]; exact ho1, hst.app hs1 (Nat.le_refl _)⟩
      case measure => simp [intOf]
    | 2, hr, HP, hpl =>
      go_wp2_with (at_builtin; refine wpList_app rfl (.tmp 17) (.tmp 22) rfl B (v := u0) rfl (hu.alloc _) ⟨wr.heap.size, 0, none⟩ 1 1 (news := [t / 256]) rfl rfl (one_new _ _) (by simp; omega) (by simp; omega) ?_; intro v1 w1 ho1 hs1)
      go_roundw
      case rel => exact ⟨1, pre ++ [t / 256], by omega, by go_num, octs_next HP (by simp; omega), by rw [← List.append_assoc]; exact ho1, hst.app hs1 (Nat.le_refl _)⟩
      case measure => simp [intOf]
    | r + 3, hr, HP, hpl => exact absurd hr (by omega)
end Go.Proofs.Qxb6605599a
