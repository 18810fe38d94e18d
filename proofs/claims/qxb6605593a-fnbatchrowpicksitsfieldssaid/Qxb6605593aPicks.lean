/-
  The law 'FnBatchRowPicksItsFields' of seat b6605593a, walked: the inputs that it passes over ('picks_out'), and the others ('picks_in').
-/
import Derived.Test.Qxb6605593aParts
namespace Go.Proofs.Qxb6605593a
open Go.RowKit

/-- What both laws know of their two slices. -/
structure Slices (w : World) (a a2 : Option Addr) (b off n c b2 off2 m c2 : Nat) (f : Nat → ByteArray) (fi : Nat → Int) : Prop where
  hn : n ≤ maxLen
  hm : m ≤ maxLen
  a0 : a = none → n = 0 ∧ c = 0
  a20 : a2 = none → m = 0 ∧ c2 = 0
  hab : 0 < n → a = some ⟨b, off, none⟩
  hab2 : 0 < m → a2 = some ⟨b2, off2, none⟩
  hc : ∀ j, j < n → w.cell? ⟨b, off + j, none⟩ = some (.string (f j))
  hs : ∀ j, j < n → (f j).size ≤ maxLen
  hc2 : ∀ j, j < m → w.cell? ⟨b2, off2 + j, none⟩ = some (.int .i64 (fi j))

theorem quot {wd : Int} (h : 1 ≤ wd) (n : Nat) : ∃ R : Nat, (n : Int) / wd = (R : Int) ∧ R ≤ n := by
  have h0 : 0 ≤ (n : Int) / wd := Int.ediv_nonneg (by omega) (by omega)
  have h1 : (n : Int) / wd ≤ n := Int.ediv_le_self _ (by omega)
  exact ⟨((n : Int) / wd).toNat, by omega, by omega⟩

set_option maxHeartbeats 400000 in
theorem picks_out (a a2 : Option Addr) (b off n c b2 off2 m c2 : Nat) (f : Nat → ByteArray) (fi : Nat → Int) (wd i : Int) (w : World) (S : Slices w a a2 b off n c b2 off2 m c2 f fi)
    (hx : wd < 1 ∨ 1 ≤ wd ∧ (n : Int) % wd ≠ 0 ∨ 1 ≤ wd ∧ (n : Int) % wd = 0 ∧ (m : Int) ≠ (n : Int) / wd ∨ 1 ≤ wd ∧ (n : Int) % wd = 0 ∧ (m : Int) = (n : Int) / wd ∧ (i < 0 ∨ (n : Int) / wd ≤ i)) :
    Calls Try.prog 3 #[.slice a n c, .int .i64 wd, .slice a2 m c2, .int .i64 i] w fun e w' => e = .returned (.bool true) ∧ Below w.heap.size w w' := by
  go_enter Try.func3, Try.ntmps3
  go_wp2_with fail
  refine (bytes5 a a2 b off n c m c2 wd i f w S.hn S.hm S.hab S.hc S.hs).mono ?_
  rintro e w1 ⟨⟨r, rfl, hr⟩, rfl⟩
  cases r with
  | false =>
    clear hr
    go_wp2
    go_ret
    exact ⟨rfl, Below.refl _ _⟩
  | true =>
    obtain ⟨hn, hm⟩ := hr rfl
    clear hr
    go_wp2_with fail
    refine (batchBytes a a2 b off n c m c2 f w1 hn hm S.hab S.hc).mono ?_
    rintro e w2 ⟨⟨r, rfl⟩, rfl⟩
    rcases hx with hx | hx | hx | hx
    · go_wp2
      all_goals (go_ret; exact ⟨rfl, Below.refl _ _⟩)
    · obtain ⟨h1, h2⟩ := hx
      have h3 : ((n : Int) % wd != 0) = true := by simpa using h2
      go_wp2
      all_goals (go_ret; exact ⟨rfl, Below.refl _ _⟩)
    · obtain ⟨h1, h2, h4⟩ := hx
      have h3 : ((n : Int) % wd != 0) = false := by simpa using h2
      obtain ⟨R, hR, hRn⟩ := quot h1 n
      rw [hR] at h4
      have h5 : ((m : Int) != (R : Int)) = true := by simpa using h4
      clear h2 h4
      go_wp2
      all_goals (go_ret; exact ⟨rfl, Below.refl _ _⟩)
    · obtain ⟨h1, h2, h4, h6⟩ := hx
      have h3 : ((n : Int) % wd != 0) = false := by simpa using h2
      obtain ⟨R, hR, hRn⟩ := quot h1 n
      rw [hR] at h4 h6
      have h5 : ((m : Int) != (R : Int)) = false := by simpa using h4
      clear h2 h4
      by_cases h7 : i < 0
      · go_wp2
        all_goals (go_ret; exact ⟨rfl, Below.refl _ _⟩)
      · have h8 : (R : Int) ≤ i := by omega
        clear h6
        go_wp2
        all_goals (go_ret; exact ⟨rfl, Below.refl _ _⟩)

/-- Where a row lies among the fields. -/
theorem row_fits {n R W I : Nat} (hI : I < R) (hn : n = R * W) : I * W + W ≤ n := by
  subst hn
  calc I * W + W = (I + 1) * W := by rw [Nat.succ_mul]
    _ ≤ R * W := Nat.mul_le_mul_right W hI

theorem col_wrap {k rr cc W : Nat} (h : Hid (k = rr * W + cc)) (hc : Hid (cc + 1 = W)) : Hid (k + 1 = (rr + 1) * W + 0) := by
  have h1 : k = rr * W + cc := h
  have h2 : cc + 1 = W := hc
  show k + 1 = (rr + 1) * W + 0
  rw [Nat.succ_mul]; omega
theorem col_next {k rr cc W : Nat} (h : Hid (k = rr * W + cc)) : Hid (k + 1 = rr * W + (cc + 1)) := by
  have h1 : k = rr * W + cc := h
  show k + 1 = rr * W + (cc + 1)
  omega

set_option maxHeartbeats 1000000 in
theorem picks_in (a a2 : Option Addr) (b off n c b2 off2 R c2 : Nat) (f : Nat → ByteArray) (fi : Nat → Int) (W I : Nat) (w : World) (S : Slices w a a2 b off n c b2 off2 R c2 f fi)
    (hW : 0 < W) (hI : I < R) (hnW : n = R * W) :
    Calls Try.prog 3 #[.slice a n c, .int .i64 W, .slice a2 R c2, .int .i64 I] w fun e w' => e = .returned (.bool true) ∧ Below w.heap.size w w' := by
  have hfit := row_fits hI hnW
  have hmod : ((n : Int) % (W : Int) != 0) = false := by
    rw [hnW]; simp
  have hdiv : (n : Int) / (W : Int) = (R : Int) := by
    rw [hnW]; push_cast; exact Int.mul_ediv_cancel _ (by omega)
  obtain ⟨lo, hlo⟩ : ∃ lo, lo = I * W := ⟨_, rfl⟩
  rw [← hlo] at hfit
  have e1 : (I : Int) * (W : Int) = (lo : Int) := by rw [hlo]; push_cast; rfl
  have e2 : ((I : Int) + 1) * (W : Int) = (lo : Int) + (W : Int) := by rw [Int.add_mul, e1]; omega
  have HLO : Hid (lo = I * W) := hlo
  clear hlo
  have HNW : Hid (n = R * W) := hnW
  clear hnW
  have hWn : W ≤ n := by omega
  go_enter Try.func3, Try.ntmps3
  go_wp2_with fail
  refine (bytes5 a a2 b off n c R c2 W I f w S.hn S.hm S.hab S.hc S.hs).mono ?_
  rintro e w1 ⟨⟨r, rfl, hr⟩, rfl⟩
  cases r with
  | false =>
    clear hr
    go_wp2
    go_ret
    exact ⟨rfl, Below.refl _ _⟩
  | true =>
    obtain ⟨hn, hm⟩ := hr rfl
    clear hr
    go_wp2_with fail
    refine (batchBytes a a2 b off n c R c2 f w1 hn hm S.hab S.hc).mono ?_
    rintro e w2 ⟨⟨r, rfl⟩, rfl⟩
    by_cases hbig : 1048576 < r
    · go_wp2
      go_ret
      exact ⟨rfl, Below.refl _ _⟩
    · go_wp2_with fail
      refine (cloneS a b off n c f w2 hn S.a0 S.hab S.hc).mono ?_
      rintro e w3 ⟨g, rfl, hb3, hg, hc3⟩
      obtain rfl := hg (by omega)
      clear hg
      go_wp2_with fail
      refine (cloneI a2 b2 off2 R c2 fi w3 hm S.a20 S.hab2 (fun j hj => by rw [hb3.cell (p := ⟨b2, off2 + j, none⟩) (World.block_lt_of_cell? _ _ (S.hc2 j hj))]; exact S.hc2 j hj)).mono ?_
      rintro e w4 ⟨g2, rfl, hb4⟩
      go_wp2_with fail
      refine (newBatch _ _ _ _ _ _ _ _).mono ?_
      rintro e w5 ⟨rfl, rfl⟩
      go_wp2_with fail
      refine (row _ w2.heap.size n lo W _ _ _ hn (by omega) (by omega) rfl hW e1 e2 hfit (by simp) (by simp)).mono ?_
      rintro e w6 ⟨rfl, nq, rfl⟩
      have hsz : w2.heap.size < w3.heap.size := World.block_lt_of_cell? _ _ (hc3 0 (by omega))
      have hc4 : ∀ j, j < n → w4.cell? ⟨w2.heap.size, j, none⟩ = some (.string (f j)) := fun j hj => (hb4.cell (p := ⟨w2.heap.size, j, none⟩) hsz).trans (hc3 j hj)
      have hb : Below w2.heap.size w2 w4 := hb3.trans (hb4.mono hb3.size)
      have hsz4 : w2.heap.size < w4.heap.size := Nat.lt_of_lt_of_le hsz hb4.size
      clear hb3 hb4 hc3 S e1 e2 hmod hdiv
      go_wp2
      go_loopw [12, 13, 14] (fun r cl j wr => ∃ k rr cc : Nat, k ≤ n ∧ rr ≤ k ∧ cc < W ∧ j = .int .i64 k ∧ r = .int .i64 rr ∧ cl = .int .i64 cc ∧ Hid (k = rr * W + cc) ∧ Below w2.heap.size w2 wr ∧ ∀ j, j < n → wr.cell? ⟨w2.heap.size, j, none⟩ = some (.string (f j))) (fun _ _ j _ => n - (intOf j).toNat)
      case atStart => exact ⟨0, 0, 0, Nat.zero_le _, Nat.le_refl _, hW, rfl, rfl, rfl, by simp [Hid], below_drewN (hb.alloc (by omega) _) nq, fun j hj => ((below_drewN ((Below.refl w4.heap.size w4).alloc (Nat.le_refl _) _) nq).cell (p := ⟨w2.heap.size, j, none⟩) hsz4).trans (hc4 j hj)⟩
      case round =>
        obtain ⟨k, rr, cc, hk, hrk, hcW, rfl, rfl, rfl, HK, hbr, hcr⟩ := hrel
        clear hb hc4 hsz4
        by_cases hlt : k < n
        · have hck := hcr k hlt
          by_cases hrr : rr = I
          · subst hrr
            have hkl : k = lo + cc := by rw [HLO.out]; exact HK.out
            have hck2 : wr.cell? ⟨w2.heap.size, lo + cc, none⟩ = some (.string (f k)) := by rw [← hkl]; exact hck
            clear hkl
            by_cases hcc : cc + 1 = W
            · have hcb : ((cc : Int) + 1 == (W : Int)) = true := by rw [beq_iff_eq]; omega
              have HC : Hid (cc + 1 = W) := hcc
              clear hcc
              go_wp2
              go_quiet (fail)
              go_wp2
              go_roundw
              case rel => exact ⟨k + 1, rr + 1, 0, by omega, by omega, hW, by go_num, by go_num, by go_num, col_wrap HK HC, below_drewN hbr _, fun j hj => hcr j hj⟩
              case measure => simp [intOf]; omega
            · have hcb : ((cc : Int) + 1 == (W : Int)) = false := by rw [beq_eq_false_iff_ne]; omega
              go_wp2
              go_quiet (fail)
              go_wp2
              go_roundw
              case rel => exact ⟨k + 1, rr, cc + 1, by omega, by omega, by omega, by go_num, by go_num, by go_num, col_next HK, below_drewN hbr _, fun j hj => hcr j hj⟩
              case measure => simp [intOf]; omega
          · have hrb : ((rr : Int) == (I : Int)) = false := by rw [beq_eq_false_iff_ne]; omega
            by_cases hcc : cc + 1 = W
            · have hcb : ((cc : Int) + 1 == (W : Int)) = true := by rw [beq_iff_eq]; omega
              have HC : Hid (cc + 1 = W) := hcc
              clear hcc
              go_wp2
              go_quiet (fail)
              go_wp2
              go_roundw
              case rel => exact ⟨k + 1, rr + 1, 0, by omega, by omega, hW, by go_num, by go_num, by go_num, col_wrap HK HC, below_drewN hbr _, fun j hj => hcr j hj⟩
              case measure => simp [intOf]; omega
            · have hcb : ((cc : Int) + 1 == (W : Int)) = false := by rw [beq_eq_false_iff_ne]; omega
              go_wp2
              go_quiet (fail)
              go_wp2
              go_roundw
              case rel => exact ⟨k + 1, rr, cc + 1, by omega, by omega, by omega, by go_num, by go_num, by go_num, col_next HK, below_drewN hbr _, fun j hj => hcr j hj⟩
              case measure => simp [intOf]; omega
        · go_wp2
          go_ret
          exact ⟨rfl, hbr⟩
end Go.Proofs.Qxb6605593a
