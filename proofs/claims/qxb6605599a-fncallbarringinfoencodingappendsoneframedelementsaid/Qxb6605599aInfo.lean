/-
  Seat b6605599a: (CallBarringInfo).appendEncoding: the features, one element each; the info; the whole.
-/
import Derived.Test.Qxb6605599aOctet
namespace Go.Proofs.Qxb6605599a
open Go.RowKit

/-- Features in memory: m structs of five cells each. -/
structure Feats (w : World) (fa : Option Addr) (fb fo m : Nat) (F : Nat → Feat) : Prop where
  at_ : 0 < m → fa = some ⟨fb, fo, none⟩
  lo : ∀ i, i < m → 0 ≤ (F i).kind ∧ (F i).kind ≤ 255
  c0 : ∀ i, i < m → w.cell? ⟨fb, fo + i * 5, none⟩ = some (.int .u8 (F i).kind)
  c1 : ∀ i, i < m → w.cell? ⟨fb, fo + i * 5 + 1, none⟩ = some (.int .u8 (F i).code)
  c2 : ∀ i, i < m → w.cell? ⟨fb, fo + i * 5 + 2, none⟩ = some (.bool (F i).hasB)
  c3 : ∀ i, i < m → w.cell? ⟨fb, fo + i * 5 + 3, none⟩ = some (.int .u8 (F i).st)
  c4 : ∀ i, i < m → w.cell? ⟨fb, fo + i * 5 + 4, none⟩ = some (.bool (F i).hasS)

/-- An octet onto nothing, behind one new block. -/
theorem octet_new (w : World) (o : Obj) (t y : Int) (h0 : 1 ≤ t) (h1 : t < 65536) :
    Calls Try.prog 11 #[.slice none 0 0, .int .u32 t, .int .u8 y] (w.alloc o) fun e w' => ∃ v', e = .returned v' ∧ Own w.heap.size w' v' (tlv t [y]) ∧ Below w.heap.size w w' ∧ ∀ j, w'.cell? ⟨w.heap.size, j, none⟩ = (w.alloc o).cell? ⟨w.heap.size, j, none⟩ := by
  refine (octet w.heap.size (w.alloc o) (.slice none 0 0) [] t y h0 h1 (Own.nil _ _) (by simp) (by simp)).mono ?_
  rintro e w' ⟨v', rfl, ho, hs⟩
  have hb : Below (w.alloc o).heap.size (w.alloc o) w' := hs.below (Nat.le_refl _) (fun k hk => by cases hk)
  exact ⟨v', rfl, by simpa using ho, ((Below.refl _ w).alloc (Nat.le_refl _) o).trans (hb.mono (by simp)), fun j => hb.cell (p := ⟨w.heap.size, j, none⟩) (by simp)⟩

/-- A basic service onto nothing, behind one new block. -/
theorem basic_new (w : World) (o : Obj) (k c : Int) (h0 : 0 ≤ k) (h1 : k ≤ 255) :
    Calls Try.prog 12 #[.agg #[.int .u8 k, .int .u8 c], .slice none 0 0] (w.alloc o) fun e w' => ∃ v', e = .returned v' ∧ Own w.heap.size w' v' (tlv (128 + k) [c]) ∧ Below w.heap.size w w' ∧ ∀ j, w'.cell? ⟨w.heap.size, j, none⟩ = (w.alloc o).cell? ⟨w.heap.size, j, none⟩ := by
  refine (basic w.heap.size (w.alloc o) (.slice none 0 0) [] k c h0 h1 (Own.nil _ _) (by simp) (by simp)).mono ?_
  rintro e w' ⟨v', rfl, ho, hs⟩
  have hb : Below (w.alloc o).heap.size (w.alloc o) w' := hs.below (Nat.le_refl _) (fun k hk => by cases hk)
  exact ⟨v', rfl, by simpa using ho, ((Below.refl _ w).alloc (Nat.le_refl _) o).trans (hb.mono (by simp)), fun j => hb.cell (p := ⟨w.heap.size, j, none⟩) (by simp)⟩

/-- An octet behind what the round has made. -/
theorem octet_more (B : Nat) (w w2 : World) (v : Value) (ys : List Int) (t y : Int) (h0 : 1 ≤ t) (h1 : t < 65536) (hB : B ≤ w.heap.size) (ho : Own B w2 v ys) (hb : Below B w w2) (hl : ys.length ≤ 536870000) :
    Calls Try.prog 11 #[v, .int .u32 t, .int .u8 y] w2 fun e w' => ∃ v', e = .returned v' ∧ Own B w' v' (ys ++ tlv t [y]) ∧ Below B w w' := by
  have hB2 : B ≤ w2.heap.size := Nat.le_trans hB hb.size
  refine (octet B w2 v ys t y h0 h1 ho hB2 hl).mono ?_
  rintro e w' ⟨v', rfl, ho', hs⟩
  exact ⟨v', rfl, ho', hb.trans (hs.below hB2 (fun k hk => (ho.lt k hk).1))⟩

/-- An element that holds fv, laid behind lv: lv lies among the blocks from C on, fv among those from B on, B at or above the end of what lv can lie in. -/
theorem elem_more (C : Nat) (w wr w3 : World) (lv fv : Value) (ls fs : List Int) (t : Int) (h0 : 1 ≤ t) (h1 : t < 65536) (hC : C ≤ w.heap.size) (hlv : Own C wr lv ls) (hbr : Below C w wr) (h3 : Below wr.heap.size wr w3) (hfv : Own wr.heap.size w3 fv fs)
    (hb : ls.length + fs.length ≤ 536870912) (hs : fs.length < 16777216) :
    Calls Try.prog 13 #[lv, .int .u32 t, fv] w3 fun e w' => ∃ v', e = .returned v' ∧ Own C w' v' (ls ++ tlv t fs) ∧ Below C w w' := by
  have hCr : C ≤ wr.heap.size := Nat.le_trans hC hbr.size
  have hC3 : C ≤ w3.heap.size := Nat.le_trans hCr h3.size
  have hl3 : Own C w3 lv ls := hlv.ofBelow h3 (fun k hk => (hlv.lt k hk).2)
  refine (append_any C w3 lv fv ls fs t h0 h1 hl3 hC3 hfv.reads (fun k hk e => ?_) hb hs).mono ?_
  · have a := (hfv.lt k hk).1
    have b := (hlv.lt k e).2
    omega
  · rintro e w' ⟨v', rfl, ho, hst⟩
    exact ⟨v', rfl, ho, hbr.trans ((h3.mono hCr).trans (hst.below hC3 (fun k hk => (hlv.lt k hk).1)))⟩

theorem Feats.later {w wr : World} {fa : Option Addr} {fb fo m : Nat} {F : Nat → Feat} (h : Feats w fa fb fo m F) (hb : Below w.heap.size w wr) : Feats wr fa fb fo m F := by
  have hlt : ∀ i, i < m → fb < w.heap.size := fun i hi => World.block_lt_of_cell? _ _ (h.c0 i hi)
  exact ⟨h.at_, h.lo, fun i hi => (hb.cell (p := ⟨fb, fo + i * 5, none⟩) (hlt i hi)).trans (h.c0 i hi), fun i hi => (hb.cell (p := ⟨fb, fo + i * 5 + 1, none⟩) (hlt i hi)).trans (h.c1 i hi),
    fun i hi => (hb.cell (p := ⟨fb, fo + i * 5 + 2, none⟩) (hlt i hi)).trans (h.c2 i hi), fun i hi => (hb.cell (p := ⟨fb, fo + i * 5 + 3, none⟩) (hlt i hi)).trans (h.c3 i hi),
    fun i hi => (hb.cell (p := ⟨fb, fo + i * 5 + 4, none⟩) (hlt i hi)).trans (h.c4 i hi)⟩

theorem apart_of {B : Nat} {w w5 : World} {v iv : Value} {xs ys : List Int} (hi : Own w.heap.size w5 iv ys) (hv : Own B w v xs) : ∀ k, iv.ownBlock = some k → v.ownBlock ≠ some k := by
  intro k hk e
  have a := (hi.lt k hk).1
  have b := (hv.lt k e).2
  omega

set_option maxHeartbeats 4000000 in
set_option maxRecDepth 100000 in
theorem enc10_true (B : Nat) (w : World) (v : Value) (xs : List Int) (ss : Int) (fa : Option Addr) (fb fo m fc : Nat) (F : Nat → Feat) (hF : Feats w fa fb fo m F) (hm : m ≤ 131072) (hown : Own B w v xs) (hB : B ≤ w.heap.size) (hb : xs.length ≤ 1048576) :
    Calls Try.prog 10 #[.agg #[.int .u8 ss, .bool true, .slice fa m fc], v] w fun e w' => ∃ v', e = .returned v' ∧ Own B w' v' (xs ++ encB ss true F m) ∧ Step xs.length w w' v v' := by
  have HF : Hid (Feats w fa fb fo m F) := hF
  have HO : Hid (Own B w v xs ∧ B ≤ w.heap.size) := ⟨hown, hB⟩
  clear hF hown hB
  go_enter Try.func10, Try.ntmps10
  go_wp2_with fail
  refine (octet_new w _ 4 ss (by decide) (by decide)).mono ?_
  rintro e w1 ⟨iv, rfl, hiv, hw1, hbox⟩
  have hc2 : w1.cell? ⟨w.heap.size, 2, none⟩ = some (.slice fa m fc) := by rw [hbox]; simp
  clear hbox
  have HI : Hid (Own w.heap.size w1 iv (codeB ss true)) := hiv
  have HW : Hid (Below w.heap.size w w1) := hw1
  clear hiv hw1
  go_wp2_with fail
  clear hc2
  go_loopw [6, 19] (fun lv s19 wr => ∃ i : Nat, i ≤ m ∧ s19 = .int .i64 i ∧ Own w1.heap.size wr lv (listB F i) ∧ Below w1.heap.size w1 wr) (fun _ s19 _ => m - (intOf s19).toNat)
  case atStart => exact ⟨0, Nat.zero_le _, rfl, Own.nil _ _, Below.refl _ _⟩
  case round =>
    obtain ⟨i, hi, rfl, hlv, hbr⟩ := hrel
    have hll := listB_le F i
    by_cases hlt : i < m
    · have hF := HF.out.later (HW.out.trans (hbr.mono HW.out.size))
      obtain rfl := hF.at_ (by omega)
      obtain ⟨k0, k1⟩ := hF.lo i hlt
      have g0 := hF.c0 i hlt
      have g1 := hF.c1 i hlt
      have g2 := hF.c2 i hlt
      have g3 := hF.c3 i hlt
      have g4 := hF.c4 i hlt
      have hfl := featB_le (F i)
      have HL : Hid (Own w1.heap.size wr u6 (listB F i) ∧ Below w1.heap.size w1 wr) := ⟨hlv, hbr⟩
      clear hF hlv hbr
      obtain ⟨f, hf⟩ : ∃ f, f = F i := ⟨_, rfl⟩
      have HN : Hid (listB F (i + 1) = listB F i ++ tlv 48 (featB f)) := by rw [hf]; rfl
      rw [← hf] at k0 k1 g0 g1 g2 g3 g4 hfl
      clear hf
      obtain ⟨kind, code, hasB, st, hasS⟩ := f
      simp only at k0 k1 g0 g1 g2 g3 g4
      cases hasB <;> cases hasS
      · -- neither
        have HE : Hid (featB ⟨kind, code, false, st, false⟩ = []) := rfl
        go_wp2_with fail
        refine (elem_more w1.heap.size w1 wr _ u6 (.slice none 0 0) (listB F i) [] 48 (by decide) (by decide) (Nat.le_refl _) HL.out.1 HL.out.2 ((Below.refl _ wr).alloc (Nat.le_refl _) _) (Own.nil _ _) (by simp; omega) (by simp)).mono ?_
        rintro e w4 ⟨lv4, rfl, ho4, hb4⟩
        go_wp2
        go_roundw
        case rel => exact ⟨i + 1, by omega, by go_num, by rw [HN.out, HE.out]; exact ho4, hb4⟩
        case measure => simp [intOf]; omega
      · -- the status alone
        have HE : Hid (featB ⟨kind, code, false, st, true⟩ = tlv 132 [st]) := rfl
        rw [HE.out] at hfl
        go_wp2_with fail
        refine (octet_new wr _ 132 st (by decide) (by decide)).mono ?_
        rintro e w3 ⟨fv, rfl, hfv, hb3, _⟩
        have H3 : Hid (Own wr.heap.size w3 fv (tlv 132 [st]) ∧ Below wr.heap.size wr w3) := ⟨hfv, hb3⟩
        clear hfv hb3
        go_wp2_with fail
        refine (elem_more w1.heap.size w1 wr _ u6 fv (listB F i) (tlv 132 [st]) 48 (by decide) (by decide) (Nat.le_refl _) HL.out.1 HL.out.2 H3.out.2 H3.out.1 (by omega) (by omega)).mono ?_
        rintro e w4 ⟨lv4, rfl, ho4, hb4⟩
        go_wp2
        go_roundw
        case rel => exact ⟨i + 1, by omega, by go_num, by rw [HN.out, HE.out]; exact ho4, hb4⟩
        case measure => simp [intOf]; omega
      · -- the basic service alone
        have HE : Hid (featB ⟨kind, code, true, st, false⟩ = tlv (128 + kind) [code]) := by unfold featB basicB statusB; simp [Hid]
        rw [HE.out] at hfl
        go_wp2_with fail
        refine (basic_new wr _ kind code k0 k1).mono ?_
        rintro e w3 ⟨fv, rfl, hfv, hb3, hbox⟩
        have hx4 : w3.cell? ⟨wr.heap.size, 4, none⟩ = some (.bool false) := by rw [hbox]; simp
        have H3 : Hid (Own wr.heap.size w3 fv (tlv (128 + kind) [code]) ∧ Below wr.heap.size wr w3) := ⟨hfv, hb3⟩
        clear hfv hb3 hbox
        go_wp2_with fail
        refine (elem_more w1.heap.size w1 wr _ u6 fv (listB F i) (tlv (128 + kind) [code]) 48 (by decide) (by decide) (Nat.le_refl _) HL.out.1 HL.out.2 H3.out.2 H3.out.1 (by omega) (by omega)).mono ?_
        rintro e w4 ⟨lv4, rfl, ho4, hb4⟩
        go_wp2
        go_roundw
        case rel => exact ⟨i + 1, by omega, by go_num, by rw [HN.out, HE.out]; exact ho4, hb4⟩
        case measure => simp [intOf]; omega
      · -- both
        have HE : Hid (featB ⟨kind, code, true, st, true⟩ = tlv (128 + kind) [code] ++ tlv 132 [st]) := rfl
        rw [HE.out] at hfl
        have hfl' : (tlv (128 + kind) [code]).length ≤ 14 := by rw [List.length_append] at hfl; omega
        go_wp2_with fail
        refine (basic_new wr _ kind code k0 k1).mono ?_
        rintro e w2 ⟨fv, rfl, hfv, hb2, hbox⟩
        have hx4 : w2.cell? ⟨wr.heap.size, 4, none⟩ = some (.bool true) := by rw [hbox]; simp
        have hx3 : w2.cell? ⟨wr.heap.size, 3, none⟩ = some (.int .u8 st) := by rw [hbox]; simp
        have H2 : Hid (Own wr.heap.size w2 fv (tlv (128 + kind) [code]) ∧ Below wr.heap.size wr w2) := ⟨hfv, hb2⟩
        clear hfv hb2 hbox
        go_wp2_with fail
        refine (octet_more wr.heap.size wr w2 fv (tlv (128 + kind) [code]) 132 st (by decide) (by decide) (Nat.le_refl _) H2.out.1 H2.out.2 (by omega)).mono ?_
        rintro e w3 ⟨fv3, rfl, hfv, hb3⟩
        have H3 : Hid (Own wr.heap.size w3 fv3 (tlv (128 + kind) [code] ++ tlv 132 [st]) ∧ Below wr.heap.size wr w3) := ⟨hfv, hb3⟩
        clear hfv hb3 H2 hx4 hx3
        go_wp2_with fail
        refine (elem_more w1.heap.size w1 wr _ u6 fv3 (listB F i) (tlv (128 + kind) [code] ++ tlv 132 [st]) 48 (by decide) (by decide) (Nat.le_refl _) HL.out.1 HL.out.2 H3.out.2 H3.out.1 (by omega) (by omega)).mono ?_
        rintro e w4 ⟨lv4, rfl, ho4, hb4⟩
        go_wp2
        go_roundw
        case rel => exact ⟨i + 1, by omega, by go_num, by rw [HN.out, HE.out]; exact ho4, hb4⟩
        case measure => simp [intOf]; omega
    · obtain rfl : i = m := by omega
      have hcl := codeB_le ss true
      have hil := infoB_le ss true F i
      have HL : Hid (Own w1.heap.size wr u6 (listB F i) ∧ Below w1.heap.size w1 wr) := ⟨hlv, hbr⟩
      clear hlv hbr
      go_wp2_with fail
      refine (elem_more w.heap.size w w1 wr iv u6 (codeB ss true) (listB F i) 48 (by decide) (by decide) (Nat.le_refl _) HI.out HW.out HL.out.2 HL.out.1 (by omega) (by omega)).mono ?_
      rintro e w5 ⟨iv5, rfl, ho5, hb5⟩
      have H5 : Hid (Own w.heap.size w5 iv5 (infoB ss true F i) ∧ Below w.heap.size w w5) := ⟨ho5, hb5⟩
      clear ho5 hb5
      go_wp2_with fail
      refine (append_any B w5 v iv5 xs (infoB ss true F i) 161 (by decide) (by decide) (HO.out.1.ofBelow H5.out.2 (fun k hk => (HO.out.1.lt k hk).2)) (Nat.le_trans HO.out.2 H5.out.2.size) H5.out.1.reads (apart_of H5.out.1 HO.out.1) (by omega) (by omega)).mono ?_
      rintro e w6 ⟨v6, rfl, ho6, hs6⟩
      go_wp2
      go_ret
      exact ⟨_, rfl, ho6, (Step.ofBelow H5.out.2 HO.out.1).trans hs6 (Nat.le_refl _)⟩

set_option maxHeartbeats 4000000 in
set_option maxRecDepth 100000 in
theorem enc10_false (B : Nat) (w : World) (v : Value) (xs : List Int) (ss : Int) (fa : Option Addr) (fb fo m fc : Nat) (F : Nat → Feat) (hF : Feats w fa fb fo m F) (hm : m ≤ 131072) (hown : Own B w v xs) (hB : B ≤ w.heap.size) (hb : xs.length ≤ 1048576) :
    Calls Try.prog 10 #[.agg #[.int .u8 ss, .bool false, .slice fa m fc], v] w fun e w' => ∃ v', e = .returned v' ∧ Own B w' v' (xs ++ encB ss false F m) ∧ Step xs.length w w' v v' := by
  have HF : Hid (Feats w fa fb fo m F) := hF
  have HO : Hid (Own B w v xs ∧ B ≤ w.heap.size) := ⟨hown, hB⟩
  clear hF hown hB
  go_enter Try.func10, Try.ntmps10
  go_wp2_with fail
  have HI : Hid (Own w.heap.size (w.alloc (.cells #[.int .u8 ss, .bool false, .slice fa m fc] 30)) (.slice none 0 0) (codeB ss false)) := Own.nil _ _
  have HW : Hid (Below w.heap.size w (w.alloc (.cells #[.int .u8 ss, .bool false, .slice fa m fc] 30))) := (Below.refl _ _).alloc (Nat.le_refl _) _
  generalize (w.alloc (.cells #[.int .u8 ss, .bool false, .slice fa m fc] 30)) = w1 at HI HW ⊢
  go_loopw [6, 19] (fun lv s19 wr => ∃ i : Nat, i ≤ m ∧ s19 = .int .i64 i ∧ Own w1.heap.size wr lv (listB F i) ∧ Below w1.heap.size w1 wr) (fun _ s19 _ => m - (intOf s19).toNat)
  case atStart => exact ⟨0, Nat.zero_le _, rfl, Own.nil _ _, Below.refl _ _⟩
  case round =>
    obtain ⟨i, hi, rfl, hlv, hbr⟩ := hrel
    have hll := listB_le F i
    by_cases hlt : i < m
    · have hF := HF.out.later (HW.out.trans (hbr.mono HW.out.size))
      obtain rfl := hF.at_ (by omega)
      obtain ⟨k0, k1⟩ := hF.lo i hlt
      have g0 := hF.c0 i hlt
      have g1 := hF.c1 i hlt
      have g2 := hF.c2 i hlt
      have g3 := hF.c3 i hlt
      have g4 := hF.c4 i hlt
      have hfl := featB_le (F i)
      have HL : Hid (Own w1.heap.size wr u6 (listB F i) ∧ Below w1.heap.size w1 wr) := ⟨hlv, hbr⟩
      clear hF hlv hbr
      obtain ⟨f, hf⟩ : ∃ f, f = F i := ⟨_, rfl⟩
      have HN : Hid (listB F (i + 1) = listB F i ++ tlv 48 (featB f)) := by rw [hf]; rfl
      rw [← hf] at k0 k1 g0 g1 g2 g3 g4 hfl
      clear hf
      obtain ⟨kind, code, hasB, st, hasS⟩ := f
      simp only at k0 k1 g0 g1 g2 g3 g4
      cases hasB <;> cases hasS
      · -- neither
        have HE : Hid (featB ⟨kind, code, false, st, false⟩ = []) := rfl
        go_wp2_with fail
        refine (elem_more w1.heap.size w1 wr _ u6 (.slice none 0 0) (listB F i) [] 48 (by decide) (by decide) (Nat.le_refl _) HL.out.1 HL.out.2 ((Below.refl _ wr).alloc (Nat.le_refl _) _) (Own.nil _ _) (by simp; omega) (by simp)).mono ?_
        rintro e w4 ⟨lv4, rfl, ho4, hb4⟩
        go_wp2
        go_roundw
        case rel => exact ⟨i + 1, by omega, by go_num, by rw [HN.out, HE.out]; exact ho4, hb4⟩
        case measure => simp [intOf]; omega
      · -- the status alone
        have HE : Hid (featB ⟨kind, code, false, st, true⟩ = tlv 132 [st]) := rfl
        rw [HE.out] at hfl
        go_wp2_with fail
        refine (octet_new wr _ 132 st (by decide) (by decide)).mono ?_
        rintro e w3 ⟨fv, rfl, hfv, hb3, _⟩
        have H3 : Hid (Own wr.heap.size w3 fv (tlv 132 [st]) ∧ Below wr.heap.size wr w3) := ⟨hfv, hb3⟩
        clear hfv hb3
        go_wp2_with fail
        refine (elem_more w1.heap.size w1 wr _ u6 fv (listB F i) (tlv 132 [st]) 48 (by decide) (by decide) (Nat.le_refl _) HL.out.1 HL.out.2 H3.out.2 H3.out.1 (by omega) (by omega)).mono ?_
        rintro e w4 ⟨lv4, rfl, ho4, hb4⟩
        go_wp2
        go_roundw
        case rel => exact ⟨i + 1, by omega, by go_num, by rw [HN.out, HE.out]; exact ho4, hb4⟩
        case measure => simp [intOf]; omega
      · -- the basic service alone
        have HE : Hid (featB ⟨kind, code, true, st, false⟩ = tlv (128 + kind) [code]) := by unfold featB basicB statusB; simp [Hid]
        rw [HE.out] at hfl
        go_wp2_with fail
        refine (basic_new wr _ kind code k0 k1).mono ?_
        rintro e w3 ⟨fv, rfl, hfv, hb3, hbox⟩
        have hx4 : w3.cell? ⟨wr.heap.size, 4, none⟩ = some (.bool false) := by rw [hbox]; simp
        have H3 : Hid (Own wr.heap.size w3 fv (tlv (128 + kind) [code]) ∧ Below wr.heap.size wr w3) := ⟨hfv, hb3⟩
        clear hfv hb3 hbox
        go_wp2_with fail
        refine (elem_more w1.heap.size w1 wr _ u6 fv (listB F i) (tlv (128 + kind) [code]) 48 (by decide) (by decide) (Nat.le_refl _) HL.out.1 HL.out.2 H3.out.2 H3.out.1 (by omega) (by omega)).mono ?_
        rintro e w4 ⟨lv4, rfl, ho4, hb4⟩
        go_wp2
        go_roundw
        case rel => exact ⟨i + 1, by omega, by go_num, by rw [HN.out, HE.out]; exact ho4, hb4⟩
        case measure => simp [intOf]; omega
      · -- both
        have HE : Hid (featB ⟨kind, code, true, st, true⟩ = tlv (128 + kind) [code] ++ tlv 132 [st]) := rfl
        rw [HE.out] at hfl
        have hfl' : (tlv (128 + kind) [code]).length ≤ 14 := by rw [List.length_append] at hfl; omega
        go_wp2_with fail
        refine (basic_new wr _ kind code k0 k1).mono ?_
        rintro e w2 ⟨fv, rfl, hfv, hb2, hbox⟩
        have hx4 : w2.cell? ⟨wr.heap.size, 4, none⟩ = some (.bool true) := by rw [hbox]; simp
        have hx3 : w2.cell? ⟨wr.heap.size, 3, none⟩ = some (.int .u8 st) := by rw [hbox]; simp
        have H2 : Hid (Own wr.heap.size w2 fv (tlv (128 + kind) [code]) ∧ Below wr.heap.size wr w2) := ⟨hfv, hb2⟩
        clear hfv hb2 hbox
        go_wp2_with fail
        refine (octet_more wr.heap.size wr w2 fv (tlv (128 + kind) [code]) 132 st (by decide) (by decide) (Nat.le_refl _) H2.out.1 H2.out.2 (by omega)).mono ?_
        rintro e w3 ⟨fv3, rfl, hfv, hb3⟩
        have H3 : Hid (Own wr.heap.size w3 fv3 (tlv (128 + kind) [code] ++ tlv 132 [st]) ∧ Below wr.heap.size wr w3) := ⟨hfv, hb3⟩
        clear hfv hb3 H2 hx4 hx3
        go_wp2_with fail
        refine (elem_more w1.heap.size w1 wr _ u6 fv3 (listB F i) (tlv (128 + kind) [code] ++ tlv 132 [st]) 48 (by decide) (by decide) (Nat.le_refl _) HL.out.1 HL.out.2 H3.out.2 H3.out.1 (by omega) (by omega)).mono ?_
        rintro e w4 ⟨lv4, rfl, ho4, hb4⟩
        go_wp2
        go_roundw
        case rel => exact ⟨i + 1, by omega, by go_num, by rw [HN.out, HE.out]; exact ho4, hb4⟩
        case measure => simp [intOf]; omega
    · obtain rfl : i = m := by omega
      have hcl := codeB_le ss false
      have hil := infoB_le ss false F i
      have HL : Hid (Own w1.heap.size wr u6 (listB F i) ∧ Below w1.heap.size w1 wr) := ⟨hlv, hbr⟩
      clear hlv hbr
      go_wp2_with fail
      refine (elem_more w.heap.size w w1 wr (.slice none 0 0) u6 (codeB ss false) (listB F i) 48 (by decide) (by decide) (Nat.le_refl _) HI.out HW.out HL.out.2 HL.out.1 (by omega) (by omega)).mono ?_
      rintro e w5 ⟨iv5, rfl, ho5, hb5⟩
      have H5 : Hid (Own w.heap.size w5 iv5 (infoB ss false F i) ∧ Below w.heap.size w w5) := ⟨ho5, hb5⟩
      clear ho5 hb5
      go_wp2_with fail
      refine (append_any B w5 v iv5 xs (infoB ss false F i) 161 (by decide) (by decide) (HO.out.1.ofBelow H5.out.2 (fun k hk => (HO.out.1.lt k hk).2)) (Nat.le_trans HO.out.2 H5.out.2.size) H5.out.1.reads (apart_of H5.out.1 HO.out.1) (by omega) (by omega)).mono ?_
      rintro e w6 ⟨v6, rfl, ho6, hs6⟩
      go_wp2
      go_ret
      exact ⟨_, rfl, ho6, (Step.ofBelow H5.out.2 HO.out.1).trans hs6 (Nat.le_refl _)⟩
end Go.Proofs.Qxb6605599a
