/-
  Seat b6605599a: ber.Append whole, appendOctet, and (BasicService).appendEncoding.
-/
import Derived.Test.Qxb6605599aLong
namespace Go.Proofs.Qxb6605599a
open Go.RowKit

/-- ber.Append: the element is laid behind what was there. -/
theorem append_any (B : Nat) (w : World) (v cv : Value) (xs cs : List Int) (t : Int) (h0 : 1 ≤ t) (h1 : t < 65536) (hown : Own B w v xs) (hB : B ≤ w.heap.size)
    (hr : Reads w cv cs) (hne : ∀ k, cv.ownBlock = some k → v.ownBlock ≠ some k) (hb : xs.length + cs.length ≤ 536870912) (hs : cs.length < 16777216) :
    Calls Try.prog 13 #[v, .int .u32 t, cv] w fun e w' => ∃ v', e = .returned v' ∧ Own B w' v' (xs ++ tlv t cs) ∧ Step xs.length w w' v v' := by
  have hr0 := hr
  rcases hr with ⟨rfl, rfl⟩ | ⟨b, c, rfl, _, _⟩
  · exact append_short B w v xs t none 0 0 [] h0 h1 hown hB hr0 rfl hne (by simpa using hb) (by decide)
  · by_cases h : cs.length < 128
    · exact append_short B w v xs t (some ⟨b, 0, none⟩) cs.length c cs h0 h1 hown hB hr0 rfl hne hb h
    · exact append_long B w v xs t b cs.length c cs h0 h1 hown hB hr0 rfl hne hb (by omega) hs

/-- A world that has only grown. -/
theorem Step.ofBelow {n B : Nat} {w w' : World} {v : Value} {xs : List Int} (h : Below w.heap.size w w') (hown : Own B w v xs) : Step n w w' v v :=
  ⟨fun k hk => (hown.lt k hk).2, ⟨h.os, h.tape, h.output, h.size, fun k hk _ => h.block k hk⟩, .inl rfl, fun k hk j _ => h.cell (p := ⟨k, j, none⟩) (hown.lt k hk).2⟩

theorem Own.ofBelow {B C : Nat} {w w' : World} {v : Value} {xs : List Int} (h : Below C w w') (hown : Own B w v xs) (hC : ∀ k, v.ownBlock = some k → k < C) : Own B w' v xs := by
  refine ⟨hown.1, ?_⟩
  rcases hown.2 with h0 | ⟨g, cap, cur, rfl, hb, hg, rest⟩
  · exact .inl h0
  · exact .inr ⟨g, cap, cur, rfl, hb, (h.block g (hC g rfl)).trans hg, rest⟩

theorem Step.down {n n1 : Nat} {w w' : World} {v v' : Value} (h : Step n w w' v v') (hn : n1 ≤ n) : Step n1 w w' v v' :=
  ⟨h.lt, h.grown, h.moved, fun k hk j hj => h.keeps k hk j (by omega)⟩

/-- The one octet, in a block of its own. -/
theorem reads_one (w : World) (o : Int) : Reads (w.alloc (.cells #[.int .u8 o] 5)) (.slice (some ⟨w.heap.size, 0, none⟩) 1 1) [o] :=
  .inr ⟨w.heap.size, 1, rfl, by simp, fun j y hy => by
    have := one_new w o j y hy
    rwa [add_off] at this⟩

set_option maxHeartbeats 400000 in
theorem octet (B : Nat) (w : World) (v : Value) (xs : List Int) (t o : Int) (h0 : 1 ≤ t) (h1 : t < 65536) (hown : Own B w v xs) (hB : B ≤ w.heap.size) (hb : xs.length ≤ 536870000) :
    Calls Try.prog 11 #[v, .int .u32 t, .int .u8 o] w fun e w' => ∃ v', e = .returned v' ∧ Own B w' v' (xs ++ tlv t [o]) ∧ Step xs.length w w' v v' := by
  go_enter Try.func11, Try.ntmps11
  go_wp2_with fail
  refine (append_any B (w.alloc (.cells #[.int .u8 o] 5)) v (.slice (some ⟨w.heap.size, 0, none⟩) 1 1) xs [o] t h0 h1 (hown.alloc _) (by simp; omega) (reads_one w o) (fun k hk e => by
    have := (hown.lt k e).2
    simp [Value.ownBlock] at hk
    omega) (by simp; omega) (by simp)).mono ?_
  rintro e w' ⟨v', rfl, ho, hs⟩
  go_wp2
  go_ret
  exact ⟨_, rfl, ho, ((Step.refl hown).alloc _).trans hs (Nat.le_refl _)⟩

set_option maxHeartbeats 400000 in
theorem basic (B : Nat) (w : World) (v : Value) (xs : List Int) (k c : Int) (h0 : 0 ≤ k) (h1 : k ≤ 255) (hown : Own B w v xs) (hB : B ≤ w.heap.size) (hb : xs.length ≤ 536870000) :
    Calls Try.prog 12 #[.agg #[.int .u8 k, .int .u8 c], v] w fun e w' => ∃ v', e = .returned v' ∧ Own B w' v' (xs ++ tlv (128 + k) [c]) ∧ Step xs.length w w' v v' := by
  go_enter Try.func12, Try.ntmps12
  go_wp2_with fail
  refine (octet B (w.alloc (.cells #[.int .u8 k, .int .u8 c] 39)) v xs (128 + k) c (by omega) (by omega) (hown.alloc _) (by simp; omega) hb).mono ?_
  rintro e w' ⟨v', rfl, ho, hs⟩
  go_wp2
  go_ret
  exact ⟨_, rfl, ho, ((Step.refl hown).alloc _).trans hs (Nat.le_refl _)⟩
end Go.Proofs.Qxb6605599a
