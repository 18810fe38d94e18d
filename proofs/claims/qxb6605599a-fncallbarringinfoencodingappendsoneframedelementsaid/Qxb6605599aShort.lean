/-
  Seat b6605599a: ber.Append at contents of fewer than 128 bytes.
-/
import Derived.Test.Qxb6605599aOwn
import Derived.Test.Qxb6605599aPlain
namespace Go.Proofs.Qxb6605599a
open Go.RowKit

theorem firstShift (t : Int) (w : World) (h0 : 1 ≤ t) (h1 : t < 65536) :
    Calls Try.prog 14 #[.int .u32 t] w fun e w' => e = .returned (.int .i64 (8 * (tagK t : Int) - 8)) ∧ w' = w := by
  unfold tagK
  by_cases h : t < 256
  · rw [if_pos h]; exact firstShift_a t w h0 h
  · rw [if_neg h]; exact firstShift_b t w (by omega) h1

/-- The one byte that 'append(dst, x)' lays in a block of its own. -/
theorem one_new (w : World) (y : Int) : ∀ j z, [y][j]? = some z → (w.alloc (.cells #[.int .u8 y] 5)).cell? ((⟨w.heap.size, 0, none⟩ : Addr).add j) = some (.int .u8 z) := by
  intro j z hj
  refine cell_one_new w (.int .u8 y) 5 j _ ?_
  cases j with
  | zero => simp at hj; subst hj; rfl
  | succ j => simp at hj

/-- One byte more of the octets. -/
theorem octs_next {x : Int} {pre : List Int} {r K : Nat} {y : Int} (h : Hid (pre ++ octs x (r + 1) = octs x K)) (hy : y = x / 256 ^ r % 256) : Hid ((pre ++ [y]) ++ octs x r = octs x K) := by
  have h' : pre ++ octs x (r + 1) = octs x K := h
  show (pre ++ [y]) ++ octs x r = octs x K
  rw [← h', hy]
  simp [octs]

theorem octs_len {x : Int} {pre : List Int} {r K : Nat} (h : Hid (pre ++ octs x r = octs x K)) : pre.length + r = K := by
  have h' : pre ++ octs x r = octs x K := h
  have := congrArg List.length h'
  simpa [octs_length] using this

theorem octs_done {x : Int} {pre : List Int} {K : Nat} (h : Hid (pre ++ octs x 0 = octs x K)) : pre = octs x K := by
  have h' : pre ++ octs x 0 = octs x K := h
  simpa [octs] using h'

theorem Step.app {n : Nat} {w w1 w2 : World} {v v1 v2 : Value} {xs ys : List Int} {o : Obj} (h : Step n w w1 v v1) (k : Step (xs ++ ys).length (w1.alloc o) w2 v1 v2) (hn : n ≤ xs.length) : Step n w w2 v v2 :=
  (h.alloc o).trans k (by simp; omega)

/-- What is apart from v stays apart from what v has become. -/
theorem Step.apart {n : Nat} {w w' : World} {v v' cv : Value} {cs : List Int} (h : Step n w w' v v') (hne : ∀ k, cv.ownBlock = some k → v.ownBlock ≠ some k) (hc : Reads w cv cs) : ∀ k, cv.ownBlock = some k → v'.ownBlock ≠ some k := by
  intro k hk e
  rcases h.moved with e2 | ⟨b, e2, hb⟩
  · exact hne k hk (e2 ▸ e)
  · rcases hc with ⟨rfl, _⟩ | ⟨b', c, rfl, hlt, _⟩
    · cases hk
    · simp [Value.ownBlock] at hk
      subst hk
      rw [e2] at e
      injection e
      omega

theorem Own.filled {B : Nat} {w : World} {v : Value} {xs : List Int} (h : Own B w v xs) (h0 : 0 < xs.length) : ∃ g n c, v = .slice (some ⟨g, 0, none⟩) n c ∧ n ≤ c ∧ Hid (n = xs.length) := by
  rcases h.2 with ⟨_, h1⟩ | ⟨g, cap, cur, hv, hb, hg, hn, _⟩
  · omega
  · exact ⟨g, xs.length, cap, hv, hn, rfl⟩

theorem tlv_short {t : Int} {cs : List Int} (h : cs.length < 128) : tlv t cs = octs t (tagK t) ++ ([(cs.length : Int)] ++ cs) := by
  unfold tlv lenB
  rw [if_pos h]
theorem tlv_nil {t : Int} : tlv t [] = octs t (tagK t) ++ [0] := by
  rw [tlv_short (by decide)]; rfl
theorem Reads.cells {w : World} {b m c : Nat} {cs : List Int} (h : Reads w (.slice (some ⟨b, 0, none⟩) m c) cs) : ∀ j y, cs[j]? = some y → w.cell? ((⟨b, 0, none⟩ : Addr).add j) = some (.int .u8 y) := by
  rcases h with ⟨h0, _⟩ | ⟨b', c', h0, _, hc⟩
  · cases h0
  · injection h0 with e1 e2 e3
    injection e1 with e1
    injection e1 with e1
    subst e1
    intro j y hy
    rw [add_off]
    exact hc j y hy

set_option maxHeartbeats 1000000 in
set_option maxRecDepth 100000 in
theorem append_short (B : Nat) (w : World) (v : Value) (xs : List Int) (t : Int) (ca : Option Addr) (m cc : Nat) (cs : List Int) (h0 : 1 ≤ t) (h1 : t < 65536) (hown : Own B w v xs) (hB : B ≤ w.heap.size)
    (hr : Reads w (.slice ca m cc) cs) (hm : cs.length = m) (hne : ∀ k, (Value.slice ca m cc).ownBlock = some k → v.ownBlock ≠ some k) (hb : xs.length + m ≤ 536870912) (hs : m < 128) :
    Calls Try.prog 13 #[v, .int .u32 t, .slice ca m cc] w fun e w' => ∃ v', e = .returned v' ∧ Own B w' v' (xs ++ tlv t cs) ∧ Step xs.length w w' v v' := by
  have hK := tagK_le t
  obtain ⟨K, hKe⟩ : ∃ K, K = tagK t := ⟨_, rfl⟩
  have HC : Hid (∀ w : World, Calls Try.prog 14 #[.int .u32 t] w fun e w' => e = .returned (.int .i64 (8 * (K : Int) - 8)) ∧ w' = w) := fun w => by rw [hKe]; exact firstShift t w h0 h1
  rw [← hKe] at hK
  have HK : Hid (K = tagK t) := hKe
  clear hKe
  obtain ⟨hK1, hK2⟩ := hK
  have HR : Hid (Reads w (.slice ca m cc) cs ∧ cs.length = m ∧ ∀ k, (Value.slice ca m cc).ownBlock = some k → v.ownBlock ≠ some k) := ⟨hr, hm, hne⟩
  clear hr hm hne
  go_enter Try.func13, Try.ntmps13
  go_wp2_with (go_at_call 14; refine (HC.out _).mono ?_; rintro e w' ⟨rfl, rfl⟩)
  clear HC
  go_loopw [0, 7] (fun u s wr => ∃ (r : Nat) (pre : List Int), r ≤ K ∧ s = .int .i64 (8 * (r : Int) - 8) ∧ Hid (pre ++ octs t r = octs t K) ∧ Own B wr u (xs ++ pre) ∧ Step xs.length w' wr v u) (fun _ s _ => ((intOf s + 8) / 8).toNat)
  case atStart => exact ⟨K, [], Nat.le_refl _, rfl, rfl, by simpa using hown, Step.refl hown⟩
  case round =>
    obtain ⟨r, pre, hr, rfl, HP, hu, hst⟩ := hrel
    have hpl := octs_len HP
    have hBr : B ≤ wr.heap.size := Nat.le_trans hB hst.grown.size
    match r, hr, HP, hpl with
    | 0, hr, HP, hpl =>
      rcases HR.out with ⟨hrd, hm, hne⟩
      clear HR
      have hne' := hst.apart hne hrd
      have hrd' := hst.reads hrd hne
      rcases hrd' with ⟨hcv, hcs⟩ | ⟨b, c, hcv, hlt, hcell⟩
      · injection hcv with e1 e2 e3
        subst e1 e2 e3 hcs
        clear hne hne' hrd hm
        go_wp2_with (first | (at_builtin; refine wpList_app rfl (.tmp 28) (.tmp 31) rfl B (v := u0) rfl (hu.alloc _) ⟨wr.heap.size, 0, none⟩ 1 1 (news := [0]) rfl rfl (one_new _ _) (by simp; omega) (by simp; omega) ?_; intro v1 w1 ho1 hs1; obtain ⟨g1, n1, c1, hv1, hn1, HN1⟩ := ho1.filled (by simp; omega); subst hv1) | (at_builtin; refine wpList_app_nil rfl (.tmp 58) (.tmp 59) rfl _ _ _ hn1 rfl rfl ?_))
        go_ret
        refine ⟨_, rfl, ?_, hst.app hs1 (Nat.le_refl _)⟩
        rw [tlv_nil, ← HK.out, ← octs_done HP, ← List.append_assoc]
        exact ho1
      · injection hcv with e1 e2 e3
        subst e1 e3
        have HM : Hid (cs.length = m) := hm
        have HR : Hid (Reads w' (.slice (some ⟨b, 0, none⟩) m cc) cs ∧ ∀ k, (Value.slice (some ⟨b, 0, none⟩) m cc).ownBlock = some k → v.ownBlock ≠ some k) := ⟨hrd, hne⟩
        clear e2 hm hcell hlt hne hne' hrd
        go_wp2_with (first | (at_builtin; refine wpList_app rfl (.tmp 28) (.tmp 31) rfl B (v := u0) rfl (hu.alloc _) ⟨wr.heap.size, 0, none⟩ 1 1 (news := [(m : Int)]) rfl rfl (one_new _ _) (by simp; omega) (by simp; omega) ?_; intro v1 w1 ho1 hs1; have hst1 := hst.app hs1 (Nat.le_refl _); have HR1 : Hid _ := (hst1.reads HR.out.1 HR.out.2).cells; clear hs1 HR) | (at_builtin; refine wpList_app rfl (.tmp 58) (.tmp 59) rfl B (v := v1) rfl ho1 ⟨b, 0, none⟩ m cc (news := cs) rfl HM.out HR1.out (by simp; omega) (Nat.le_trans hB hst1.grown.size) ?_; intro v2 w2 ho2 hs2))
        go_ret
        refine ⟨_, rfl, ?_, hst1.trans hs2 (by simp)⟩
        rw [tlv_short (by rw [HM.out]; omega), HM.out, ← HK.out, ← octs_done HP]
        simpa using ho2
    | 1, hr, HP, hpl =>
      go_wp2_with (at_builtin; refine wpList_app rfl (.tmp 17) (.tmp 22) rfl B (v := u0) rfl (hu.alloc _) ⟨wr.heap.size, 0, none⟩ 1 1 (news := [t % 256]) rfl rfl (one_new _ _) (by simp; omega) (by simp; omega) ?_; intro v1 w1 ho1 hs1)
      go_roundw
      case rel => exact ⟨0, pre ++ [t % 256], by omega, by go_num, octs_next HP (by simp), by rw [← List.append_assoc]; exact ho1, hst.app hs1 (Nat.le_refl _)⟩
      case measure => simp [intOf]
    | 2, hr, HP, hpl =>
      go_wp2_with (at_builtin; refine wpList_app rfl (.tmp 17) (.tmp 22) rfl B (v := u0) rfl (hu.alloc _) ⟨wr.heap.size, 0, none⟩ 1 1 (news := [t / 256]) rfl rfl (one_new _ _) (by simp; omega) (by simp; omega) ?_; intro v1 w1 ho1 hs1)
      go_roundw
      case rel => exact ⟨1, pre ++ [t / 256], by omega, by go_num, octs_next HP (by simp; omega), by rw [← List.append_assoc]; exact ho1, hst.app hs1 (Nat.le_refl _)⟩
      case measure => simp [intOf]
    | r + 3, hr, HP, hpl => exact absurd hr (by omega)
end Go.Proofs.Qxb6605599a
