/-
  The law 'FnBatchRowsConcatenateToFields' of seat b6605593a, walked: the inputs that it passes over ('concat_out'), and the others ('concat_in').
-/
import Derived.Test.Qxb6605593aPicks
namespace Go.Proofs.Qxb6605593a
open Go.RowKit

set_option maxHeartbeats 400000 in
theorem concat_out (a a2 : Option Addr) (b off n c b2 off2 m c2 : Nat) (f : Nat → ByteArray) (fi : Nat → Int) (wd : Int) (w : World) (S : Slices w a a2 b off n c b2 off2 m c2 f fi)
    (hx : wd < 1 ∨ 1 ≤ wd ∧ (n : Int) % wd ≠ 0 ∨ 1 ≤ wd ∧ (n : Int) % wd = 0 ∧ (m : Int) ≠ (n : Int) / wd) :
    Calls Try.prog 4 #[.slice a n c, .int .i64 wd, .slice a2 m c2] w fun e w' => e = .returned (.bool true) ∧ Below w.heap.size w w' := by
  go_enter Try.func4, Try.ntmps4
  go_wp2_with fail
  refine (bytes11 a a2 b off n c m c2 wd f w S.hn S.hm S.hab S.hc S.hs).mono ?_
  rintro e w1 ⟨⟨r, rfl, hr⟩, rfl⟩
  cases r with
  | false =>
    clear hr
    go_wp2
    go_ret
    exact ⟨rfl, Below.refl _ _⟩
  | true =>
    obtain ⟨hn, hm⟩ := hr rfl
    clear hr
    go_wp2_with fail
    refine (batchBytes a a2 b off n c m c2 f w1 hn hm S.hab S.hc).mono ?_
    rintro e w2 ⟨⟨r, rfl⟩, rfl⟩
    rcases hx with hx | hx | hx
    · go_wp2
      all_goals (go_ret; exact ⟨rfl, Below.refl _ _⟩)
    · obtain ⟨h1, h2⟩ := hx
      have h3 : ((n : Int) % wd != 0) = true := by simpa using h2
      go_wp2
      all_goals (go_ret; exact ⟨rfl, Below.refl _ _⟩)
    · obtain ⟨h1, h2, h4⟩ := hx
      have h3 : ((n : Int) % wd != 0) = false := by simpa using h2
      obtain ⟨R, hR, hRn⟩ := quot h1 n
      rw [hR] at h4
      have h5 : ((m : Int) != (R : Int)) = true := by simpa using h4
      clear h2 h4
      go_wp2
      all_goals (go_ret; exact ⟨rfl, Below.refl _ _⟩)

theorem col_row {ps q W : Nat} (h : Hid (ps = q * W)) : Hid (ps + W = (q + 1) * W) := by
  have h1 : ps = q * W := h
  show ps + W = (q + 1) * W
  rw [Nat.succ_mul, h1]

set_option maxHeartbeats 1000000 in
theorem concat_in (a a2 : Option Addr) (b off n c b2 off2 R c2 : Nat) (f : Nat → ByteArray) (fi : Nat → Int) (W : Nat) (w : World) (S : Slices w a a2 b off n c b2 off2 R c2 f fi)
    (hW : 0 < W) (hW63 : (W : Int) ≤ 9223372036854775807) (hnW : n = R * W) :
    Calls Try.prog 4 #[.slice a n c, .int .i64 W, .slice a2 R c2] w fun e w' => e = .returned (.bool true) ∧ Below w.heap.size w w' := by
  have hmod : ((n : Int) % (W : Int) != 0) = false := by
    rw [hnW]; simp
  have hdiv : (n : Int) / (W : Int) = (R : Int) := by
    rw [hnW]; push_cast; exact Int.mul_ediv_cancel _ (by omega)
  have HNW : Hid (n = R * W) := hnW
  clear hnW
  go_enter Try.func4, Try.ntmps4
  go_wp2_with fail
  refine (bytes11 a a2 b off n c R c2 W f w S.hn S.hm S.hab S.hc S.hs).mono ?_
  rintro e w1 ⟨⟨r, rfl, hr⟩, rfl⟩
  cases r with
  | false =>
    clear hr
    go_wp2
    go_ret
    exact ⟨rfl, Below.refl _ _⟩
  | true =>
    obtain ⟨hn, hm⟩ := hr rfl
    clear hr
    go_wp2_with fail
    refine (batchBytes a a2 b off n c R c2 f w1 hn hm S.hab S.hc).mono ?_
    rintro e w2 ⟨⟨r, rfl⟩, rfl⟩
    by_cases hbig : 1048576 < r
    · go_wp2
      go_ret
      exact ⟨rfl, Below.refl _ _⟩
    · go_wp2_with fail
      refine (cloneS a b off n c f w2 hn S.a0 S.hab S.hc).mono ?_
      rintro e w3 ⟨g, rfl, hb3, hg, hc3⟩
      go_wp2_with fail
      refine (cloneI a2 b2 off2 R c2 fi w3 hm S.a20 S.hab2 (fun j hj => by rw [hb3.cell (p := ⟨b2, off2 + j, none⟩) (World.block_lt_of_cell? _ _ (S.hc2 j hj))]; exact S.hc2 j hj)).mono ?_
      rintro e w4 ⟨g2, rfl, hb4⟩
      go_wp2_with fail
      refine (newBatch _ _ _ _ _ _ _ _).mono ?_
      rintro e w5 ⟨rfl, rfl⟩
      have hc4 : ∀ j, j < n → w4.cell? ⟨w2.heap.size, j, none⟩ = some (.string (f j)) := fun j hj => (hb4.cell (p := ⟨w2.heap.size, j, none⟩) (World.block_lt_of_cell? _ _ (hc3 j hj))).trans (hc3 j hj)
      have hb : Below w2.heap.size w2 w4 := hb3.trans (hb4.mono hb3.size)
      have hsz4 : w2.heap.size ≤ w4.heap.size := hb.size
      have HG : Hid (0 < n → g = some ⟨w2.heap.size, 0, none⟩) := hg
      clear hb3 hb4 hc3 S hmod hg
      go_wp2
      go_loopw [9, 10] (fun p r wr => ∃ q ps : Nat, q ≤ R ∧ ps ≤ n ∧ r = .int .i64 q ∧ p = .int .i64 ps ∧ Hid (ps = q * W) ∧ Below w2.heap.size w2 wr ∧ (∀ j, j < n → wr.cell? ⟨w2.heap.size, j, none⟩ = some (.string (f j))) ∧
          wr.cell? ⟨w4.heap.size, 0, none⟩ = some (.slice g n n) ∧ wr.cell? ⟨w4.heap.size, 1, none⟩ = some (.int .i64 W)) (fun _ r _ => R - (intOf r).toNat)
      case atStart => exact ⟨0, 0, Nat.zero_le _, Nat.zero_le _, rfl, rfl, by simp [Hid], hb.alloc (by omega) _, fun j hj => ((Below.refl w4.heap.size w4).alloc (Nat.le_refl _) _).cell (p := ⟨w2.heap.size, j, none⟩) (World.block_lt_of_cell? _ _ (hc4 j hj)) |>.trans (hc4 j hj), by simp, by simp⟩
      case round =>
        obtain ⟨q, ps, hq, hps, rfl, rfl, HP, hbr, hcr, hp0, hp1⟩ := hrel
        clear hb hc4
        obtain ⟨wo, rfl⟩ : ∃ wo : World, wo = wr := ⟨_, rfl⟩
        by_cases hlt : q < R
        · have hfit := row_fits hlt HNW.out
          rw [← HP.out] at hfit
          have HG' := HG.out (by omega)
          subst HG'
          have e1 : (q : Int) * (W : Int) = (ps : Int) := by rw [HP.out]; push_cast; rfl
          have e2 : ((q : Int) + 1) * (W : Int) = (ps : Int) + (W : Int) := by rw [Int.add_mul, e1]; omega
          go_wp2_with fail
          refine (row _ w2.heap.size n ps W _ _ _ hn (by omega) (by omega) rfl hW e1 e2 hfit hp0 hp1).mono ?_
          rintro e w6 ⟨rfl, nq, rfl⟩
          clear e1 e2
          have hWn : W ≤ n := by omega
          go_wp2
          go_loopw [9, 12] (fun p s12 wr => ∃ k : Nat, k ≤ W ∧ s12 = .int .i64 k ∧ p = .int .i64 ((ps + k : Nat) : Int) ∧ ∃ nq, wr = wo.drewN nq) (fun _ k _ => W - (intOf k).toNat)
          case atStart => exact ⟨0, Nat.zero_le _, rfl, by simp, nq, rfl⟩
          case round =>
            obtain ⟨k, hk, rfl, rfl, nr, rfl⟩ := hrel
            by_cases hkW : k < W
            · have hck := hcr (ps + k) (by omega)
              have hin : (ps : Int) + (k : Int) < (n : Int) := by omega
              have hd : decide ((n : Int) ≤ (ps : Int) + (k : Int)) = false := decide_eq_false (by omega)
              go_wp2
              go_quiet (fail)
              go_wp2
              go_roundw
              case rel => exact ⟨k + 1, by omega, by go_num, by go_num, _, rfl⟩
              case measure => simp [intOf]; omega
            · obtain rfl : k = W := by omega
              go_wp2
              go_roundw
              case rel => exact ⟨q + 1, ps + k, by omega, by omega, by go_num, rfl, col_row HP, below_drewN hbr _, fun j hj => hcr j hj, hp0, hp1⟩
              case measure => simp [intOf]; omega
        · obtain rfl : q = R := by omega
          have hpn : ps = n := by rw [HP.out, ← HNW.out]
          have hpe : ((ps : Int) == (n : Int)) = true := by rw [hpn, beq_iff_eq]
          clear hpn
          go_wp2
          go_ret
          exact ⟨rfl, hbr⟩
end Go.Proofs.Qxb6605593a
