/-
  Seat b6605599a: the law 'FnCallBarringInfoEncodingAppendsOneFramedElement' at the inputs that it does not pass over.
-/
import Derived.Test.Qxb6605599aOut
import Derived.Deep.QuietTactic
import Derived.BigQuiet
namespace Go.Proofs.Qxb6605599a
open Go.RowKit

theorem encB_eq (ss : Int) (has : Bool) (F : Nat → Feat) (m : Nat) : encB ss has F m = 161 :: (lenB (infoB ss has F m).length ++ infoB ss has F m) := rfl

theorem info_first (ss : Int) (has : Bool) (F : Nat → Feat) (m : Nat) : (infoB ss has F m)[0]? = some (if has then 4 else 48) := by
  cases has <;> rfl

theorem none_zero {m g : Nat} {gf : Option Addr} (h : 0 < m → gf = some ⟨g, 0, none⟩) (e : gf = none) : m = 0 ∧ m = 0 := by
  have : m = 0 := Nat.eq_zero_of_not_pos (fun hp => by have := h hp; rw [e] at this; cases this)
  exact ⟨this, this⟩

theorem encB_le (ss : Int) (has : Bool) (F : Nat → Feat) (m : Nat) : 4 ≤ (encB ss has F m).length ∧ (encB ss has F m).length ≤ 20 * m + 19 := by
  have h1 := infoB_le ss has F m
  have h2 := tlv_le 161 (infoB ss has F m)
  unfold encB
  omega

/-- The encoding onto nothing. -/
theorem alone8 (w : World) (o : Obj) (ss : Int) (has : Bool) (fa : Option Addr) (fb fo m fc : Nat) (F : Nat → Feat) (hF : Feats w fa fb fo m F) (hm : m ≤ 131072) :
    Calls Try.prog 8 #[.agg #[.int .u8 ss, .bool has, .slice fa m fc], .slice none 0 0] (w.alloc o) fun e w' => ∃ v', e = .returned v' ∧ Own w.heap.size w' v' (encB ss has F m) ∧ Below w.heap.size w w' ∧ ∀ j, w'.cell? ⟨w.heap.size, j, none⟩ = (w.alloc o).cell? ⟨w.heap.size, j, none⟩ := by
  refine (enc8 w.heap.size (w.alloc o) (.slice none 0 0) [] ss has fa fb fo m fc F (hF.later ((Below.refl _ _).alloc (Nat.le_refl _) _)) hm (Own.nil _ _) (by simp) (by simp)).mono ?_
  rintro e w' ⟨v', rfl, ho, hs⟩
  have hb : Below (w.alloc o).heap.size (w.alloc o) w' := hs.below (Nat.le_refl _) (fun k hk => by cases hk)
  exact ⟨v', rfl, by simpa using ho, ((Below.refl _ w).alloc (Nat.le_refl _) o).trans (hb.mono (by simp)), fun j => hb.cell (p := ⟨w.heap.size, j, none⟩) (by simp)⟩

/-- The encoding onto dst, and what of the rest is still there. -/
theorem got8 (w0 w5 : World) (v1 : Value) (ga : Option Addr) (n : Nat) (xs : List Int) (ss : Int) (has : Bool) (fa : Option Addr) (fb fo m fc : Nat) (F : Nat → Feat) (C : Nat)
    (h1 : Own C w5 v1 (encB ss has F m)) (h0 : Own w0.heap.size w5 (.slice ga n n) xs) (hb : Below w0.heap.size w0 w5) (hF : Feats w5 fa fb fo m F) (hne : ∀ k, v1.ownBlock = some k → (Value.slice ga n n).ownBlock ≠ some k) (hm : m ≤ 131072) (hl : xs.length = n) (hn : n ≤ 1048576) :
    Calls Try.prog 8 #[.agg #[.int .u8 ss, .bool has, .slice fa m fc], .slice ga n n] w5 fun e w' => ∃ v', e = .returned v' ∧ ∃ g1 c1 g2 c2 g0 EL : Nat, v1 = .slice (some ⟨g1, 0, none⟩) EL c1 ∧ v' = .slice (some ⟨g2, 0, none⟩) (n + EL) c2 ∧ 4 ≤ EL ∧ EL ≤ 4194304 ∧
      EL = (encB ss has F m).length ∧ (0 < n → ga = some ⟨g0, 0, none⟩) ∧ (∀ j y, (encB ss has F m)[j]? = some y → w'.cell? ⟨g1, j, none⟩ = some (.int .u8 y)) ∧ (∀ j y, (xs ++ encB ss has F m)[j]? = some y → w'.cell? ⟨g2, j, none⟩ = some (.int .u8 y)) ∧
      (∀ j y, xs[j]? = some y → w'.cell? ⟨g0, j, none⟩ = some (.int .u8 y)) ∧ Below w0.heap.size w0 w' := by
  have hE := encB_le ss has F m
  have hB5 : w0.heap.size ≤ w5.heap.size := hb.size
  refine (enc8 w0.heap.size w5 (.slice ga n n) xs ss has fa fb fo m fc F hF hm h0 hB5 (by omega)).mono ?_
  rintro e w' ⟨v', rfl, ho, hs⟩
  have h1' : Own C w' v1 (encB ss has F m) := hs.own h1 hne
  have hbw : Below w0.heap.size w0 w' := hb.trans (hs.below hB5 (fun k hk => (h0.lt k hk).1))
  rcases h1'.form with ⟨_, hx⟩ | ⟨g1, c1, rfl, _, _⟩
  · rw [hx] at hE; simp at hE
  rcases ho.form with ⟨_, hx⟩ | ⟨g2, c2, rfl, _, _⟩
  · have := congrArg List.length hx
    rw [List.length_append, List.length_nil] at this
    omega
  have hlen : (xs ++ encB ss has F m).length = n + (encB ss has F m).length := by rw [List.length_append, hl]
  rw [hlen] at ho ⊢
  have d : ∃ g0, (0 < n → ga = some ⟨g0, 0, none⟩) ∧ ∀ j y, xs[j]? = some y → w'.cell? ⟨g0, j, none⟩ = some (.int .u8 y) := by
    rcases h0.form with ⟨_, hx⟩ | ⟨g0, c0, hv, _, _⟩
    · exact ⟨0, fun h => by rw [hx] at hl; simp at hl; omega, fun j y hy => by rw [hx] at hy; simp at hy⟩
    · injection hv with e1 e2 e3
      subst e1
      refine ⟨g0, fun _ => rfl, fun j y hy => ?_⟩
      have hj : j < xs.length := (List.getElem?_eq_some_iff.1 hy).1
      rw [hs.keeps g0 rfl j hj]
      exact h0.cell rfl hy
  obtain ⟨g0, d1, d2⟩ := d
  exact ⟨_, rfl, g1, c1, g2, c2, g0, _, rfl, rfl, hE.1, by omega, rfl, d1, fun j y hy => h1'.cell rfl hy, fun j y hy => ho.cell rfl hy, d2, hbw⟩

/-- The length of the whole, read back; where the contents begin; what they begin with. -/
theorem read_back (g1 EL c1 : Nat) (ss : Int) (has : Bool) (F : Nat → Feat) (m : Nat) (w : World) (nr : Nat) (hm : m ≤ 131072) (hE : EL = (encB ss has F m).length) (hc : ∀ j y, (encB ss has F m)[j]? = some y → w.cell? ⟨g1, j, none⟩ = some (.int .u8 y)) :
    ∃ L Q : Nat, (Calls Try.prog 9 #[.slice (some ⟨g1, 0, none⟩) EL c1, .int .i64 1] (w.drewN nr) fun e w' => e = .returned (.tuple #[.int .i64 (L : Int), .int .i64 (Q : Int), .bool true]) ∧ w' = w.drewN nr) ∧ 1 ≤ Q ∧ 2 ≤ L ∧ EL = Q + L ∧
      w.cell? ⟨g1, Q, none⟩ = some (.int .u8 (if has then 4 else 48)) := by
  have hI := infoB_le ss has F m
  have hf := info_first ss has F m
  rw [encB_eq] at hE hc
  have hEL : EL = 1 + ((lenB (infoB ss has F m).length).length + (infoB ss has F m).length) := by
    rw [hE, List.length_cons, List.length_append]; omega
  refine ⟨(infoB ss has F m).length, 1 + (lenB (infoB ss has F m).length).length, ?_, by omega, hI.2, by omega, ?_⟩
  · have := read_any g1 EL c1 (infoB ss has F m) (w.drewN nr) hEL hI.2 (by omega) (fun j y hy => hc j y hy)
    rwa [show (1 : Int) + ((lenB (infoB ss has F m).length).length : Int) = ((1 + (lenB (infoB ss has F m).length).length : Nat) : Int) by push_cast; rfl] at this
  · refine hc _ _ ?_
    rw [show 1 + (lenB (infoB ss has F m).length).length = (lenB (infoB ss has F m).length).length + 1 by omega, List.getElem?_cons_succ, List.getElem?_append_right (Nat.le_refl _), Nat.sub_self]
    exact hf

set_option maxHeartbeats 2000000 in
set_option maxRecDepth 100000 in
theorem law_in (a a3 : Option Addr) (b off n c b3 o3 m c3 : Nat) (xs : List Int) (F : Nat → Feat) (ss : Int) (has : Bool) (w : World) (h1 : m ≤ 131072) (h2 : n + 8 * m ≤ 1048576)
    (hl : xs.length = n) (a0 : a = none → n = 0 ∧ c = 0) (a30 : a3 = none → m = 0 ∧ c3 = 0) (hab : 0 < n → a = some ⟨b, off, none⟩) (hc : ∀ j y, xs[j]? = some y → w.cell? ⟨b, off + j, none⟩ = some (.int .u8 y)) (hF : Feats w a3 b3 o3 m F) :
    Calls Try.prog 3 #[.slice a n c, .int .u8 ss, .bool has, .slice a3 m c3] w fun e w' => e = .returned (.bool true) ∧ Below w.heap.size w w' := by
  have HX : Hid (xs.length = n ∧ (a = none → n = 0 ∧ c = 0) ∧ (a3 = none → m = 0 ∧ c3 = 0) ∧ (0 < n → a = some ⟨b, off, none⟩) ∧ (∀ j y, xs[j]? = some y → w.cell? ⟨b, off + j, none⟩ = some (.int .u8 y)) ∧ Feats w a3 b3 o3 m F) := ⟨hl, a0, a30, hab, hc, hF⟩
  clear hl a0 a30 hab hc hF
  go_enter Try.func3, Try.ntmps3
  go_wp2_with fail
  refine (bytes_yes _ _ _ _ _ _ _ _ _ (by omega)).mono ?_
  rintro e w0 ⟨rfl, rfl⟩
  go_wp2_with fail
  refine (cloneB a b off n c xs _ (by omega) HX.out.1 HX.out.2.1 HX.out.2.2.2.1 HX.out.2.2.2.2.1).mono ?_
  rintro e w1 ⟨ga, rfl, ho1, hb1⟩
  have H1 : Hid (Own w0.heap.size w1 (.slice ga n n) xs ∧ Below w0.heap.size w0 w1) := ⟨ho1, hb1⟩
  clear ho1 hb1
  go_wp2_with fail
  refine (clone6 a3 b3 o3 m c3 F w1 (by omega) HX.out.2.2.1 (HX.out.2.2.2.2.2.later H1.out.2)).mono ?_
  rintro e w2 ⟨gf, rfl, hf2, hb2⟩
  have H2 : Hid (Feats w2 gf w1.heap.size 0 m F ∧ Below w1.heap.size w1 w2) := ⟨hf2, hb2⟩
  clear hf2 hb2
  go_wp2_with fail
  refine (info7 ss has gf w1.heap.size 0 m m F w2 (by omega) (fun h => none_zero H2.out.1.at_ h) H2.out.1).mono ?_
  rintro e w3 ⟨fa, rfl, hf3, hb3⟩
  have H3 : Hid (Feats w3 fa (w2.heap.size + 1) 0 m F ∧ Below w2.heap.size w2 w3) := ⟨hf3, hb3⟩
  clear hf3 hb3
  go_wp2_with fail
  refine (alone8 w3 (.cells #[.int .u8 ss, .bool has, .slice fa m m] 30) ss has fa (w2.heap.size + 1) 0 m m F H3.out.1 h1).mono ?_
  rintro e w5 ⟨v1, rfl, ho5, hb5, hbox⟩
  have k0 : w5.cell? ⟨w3.heap.size, 0, none⟩ = some (.int .u8 ss) := by rw [hbox]; simp
  have k1 : w5.cell? ⟨w3.heap.size, 1, none⟩ = some (.bool has) := by rw [hbox]; simp
  have k2 : w5.cell? ⟨w3.heap.size, 2, none⟩ = some (.slice fa m m) := by rw [hbox]; simp
  have hb05 : Below w0.heap.size w0 w5 := H1.out.2.trans ((H2.out.2.mono H1.out.2.size).trans ((H3.out.2.mono (Nat.le_trans H1.out.2.size H2.out.2.size)).trans (hb5.mono (Nat.le_trans H1.out.2.size (Nat.le_trans H2.out.2.size H3.out.2.size)))))
  have hb15 : Below w1.heap.size w1 w5 := H2.out.2.trans ((H3.out.2.mono H2.out.2.size).trans (hb5.mono (Nat.le_trans H2.out.2.size H3.out.2.size)))
  have ho15 : Own w0.heap.size w5 (.slice ga n n) xs := H1.out.1.ofBelow hb15 (fun k hk => (H1.out.1.lt k hk).2)
  have hap : ∀ k, v1.ownBlock = some k → (Value.slice ga n n).ownBlock ≠ some k := fun k hk e => by
    have p := (ho5.lt k hk).1
    have q := (H1.out.1.lt k e).2
    have r := Nat.le_trans H2.out.2.size H3.out.2.size
    omega
  have H5 : Hid (Own w3.heap.size w5 v1 (encB ss has F m) ∧ Own w0.heap.size w5 (.slice ga n n) xs ∧ Below w0.heap.size w0 w5 ∧ Feats w5 fa (w2.heap.size + 1) 0 m F ∧ ∀ k, v1.ownBlock = some k → (Value.slice ga n n).ownBlock ≠ some k) := ⟨ho5, ho15, hb05, H3.out.1.later hb5, hap⟩
  clear ho5 ho15 hb05 hap hb15 hb5 hbox
  go_wp2_with fail
  refine (got8 w0 w5 v1 ga n xs ss has fa (w2.heap.size + 1) 0 m m F w3.heap.size H5.out.1 H5.out.2.1 H5.out.2.2.1 H5.out.2.2.2.1 H5.out.2.2.2.2 h1 HX.out.1 (by omega)).mono ?_
  rintro e w6 ⟨v2, rfl, g1, c1, g2, c2, g0, EL, hv1, hv2, hEL4, hEL, hrest⟩
  subst hv1 hv2
  have H6 : Hid _ := hrest
  clear hrest H5 H3 H2 k0 k1 k2
  have hEn : ((n : Int) + (EL : Int) != (n : Int) + (EL : Int)) = false := by simp
  go_wp2
  clear hEn
  go_loopw [12] (fun s wr => ∃ k : Nat, k ≤ n ∧ s = .int .i64 k ∧ ∃ nq, wr = w6.drewN nq) (fun s _ => n - (intOf s).toNat)
  case atStart => exact ⟨0, Nat.zero_le _, rfl, 0, rfl⟩
  case round =>
    obtain ⟨k, hk, rfl, nq, rfl⟩ := hrel
    by_cases hlt : k < n
    · obtain rfl := H6.out.2.1 (by omega)
      obtain ⟨y, hy⟩ : ∃ y, xs[k]? = some y := ⟨_, List.getElem?_eq_getElem (by rw [HX.out.1]; exact hlt)⟩
      have d0 := H6.out.2.2.2.2.1 k y hy
      have d2 := H6.out.2.2.2.1 k y (by rw [List.getElem?_append_left (List.getElem?_eq_some_iff.1 hy).1]; exact hy)
      clear hy
      have i1 : (k : Int) < (n : Int) + (EL : Int) := by omega
      go_wp2
      go_quiet (fail)
      go_wp2
      go_roundw
      case rel => exact ⟨k + 1, by omega, by go_num, _, rfl⟩
      case measure => simp [intOf]; omega
    · go_wp2
      clear hlt hk
      go_loopw [13] (fun s wr => ∃ k : Nat, k ≤ EL ∧ s = .int .i64 k ∧ ∃ nq, wr = w6.drewN nq) (fun s _ => EL - (intOf s).toNat)
      case atStart => exact ⟨0, Nat.zero_le _, rfl, nq, rfl⟩
      case round =>
        obtain ⟨j, hj, rfl, nr, rfl⟩ := hrel
        by_cases hlt : j < EL
        · obtain ⟨y, hy⟩ : ∃ y, (encB ss has F m)[j]? = some y := ⟨_, List.getElem?_eq_getElem (by rw [← H6.out.1]; exact hlt)⟩
          have d1 := H6.out.2.2.1 j y hy
          have d2 := H6.out.2.2.2.1 (n + j) y (by rw [List.getElem?_append_right (by rw [HX.out.1]; omega), HX.out.1, Nat.add_sub_cancel_left]; exact hy)
          clear hy
          have i1 : (n : Int) + (j : Int) < (n : Int) + (EL : Int) := by omega
          go_wp2
          go_quiet (fail)
          go_wp2
          go_roundw
          case rel => exact ⟨j + 1, by omega, by go_num, _, rfl⟩
          case measure => simp [intOf]; omega
        · have d0 := H6.out.2.2.1 0 161 (by rw [encB_eq]; rfl)
          have hz : (0 : Int) < (EL : Int) := by omega
          obtain ⟨L, Q, hr, hQ, hL2, hE, dH⟩ := read_back g1 EL c1 ss has F m w6 nr h1 H6.out.1 H6.out.2.2.1
          have HR : Hid (Calls Try.prog 9 #[.slice (some ⟨g1, 0, none⟩) EL c1, .int .i64 1] (w6.drewN nr) fun e w' => e = .returned (.tuple #[.int .i64 (L : Int), .int .i64 (Q : Int), .bool true]) ∧ w' = w6.drewN nr) := hr
          have hne : ((Q : Int) + (L : Int) != (EL : Int)) = false := by rw [bne_eq_false_iff_eq]; omega
          have hlt2 : (Q : Int) < (EL : Int) := by omega
          have hLb : L ≤ 4194304 := by omega
          have hQb : Q ≤ 4194304 := by omega
          clear hr hE
          go_wp2_with fail
          refine HR.out.mono ?_
          rintro e w9 ⟨rfl, rfl⟩
          clear HR
          cases has
          · have dH' : w6.cell? ⟨g1, Q, none⟩ = some (.int .u8 48) := dH
            clear dH
            go_wp2
            go_ret
            exact ⟨rfl, below_drewN H6.out.2.2.2.2.2 _⟩
          · have dH' : w6.cell? ⟨g1, Q, none⟩ = some (.int .u8 4) := dH
            clear dH
            go_wp2
            go_ret
            exact ⟨rfl, below_drewN H6.out.2.2.2.2.2 _⟩
end Go.Proofs.Qxb6605599a
