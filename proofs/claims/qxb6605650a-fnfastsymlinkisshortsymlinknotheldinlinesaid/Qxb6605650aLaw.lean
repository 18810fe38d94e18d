/-
  Seat b6605650a: the law 'FnFastSymlinkIsShortSymlinkNotHeldInline', walked.
-/
import Derived.Test.Qxb6605650aParts
namespace Go.Proofs.Qxb6605650a
open Go.RowKit

set_option maxHeartbeats 400000 in
theorem law_out (ino typ perm uid gid size mtime flags : Int) (xs : Array Value) (hx : xs.size = 60) (a : Option Addr) (n c : Nat) (w : World) (hn : n ≤ maxLen) (h : ¬ n ≤ 1048576) :
    Calls Try.prog 3 #[.int .u32 ino, .int .u8 typ, .int .u16 perm, .int .u32 uid, .int .u32 gid, .int .u64 size, .int .i64 mtime, .int .u32 flags, .agg xs, .slice a n c] w fun e w' => e = .returned (.bool true) ∧ Below w.heap.size w w' := by
  have HS : Hid ((Try.prog.info? 25).map (·.size) = some xs.size) := by rw [hx]; exact size25
  clear hx
  go_enter Try.func3, Try.ntmps3
  go_wp2_with (refine wpList_load_row rfl 25 (.tmp 18) rfl w.heap.size rfl 25 xs (0, 0) _ (heap_alloc_new w _) Try.underlying25 rfl HS.out ?_)
  refine (bytes_no ino typ perm uid gid size mtime flags xs a n c _ hn h).mono ?_
  rintro e w1 ⟨rfl, hb⟩
  go_wp2
  go_ret
  exact ⟨rfl, ((Below.refl _ w).alloc (Nat.le_refl _) _).trans (hb.mono (by simp))⟩

def zeros25 : Array Value := Array.replicate 60 (.int .u8 0)
theorem built25 : Try.prog.built 25 [] = some zeros25 := by kernel_rfl

theorem zeros_size : zeros25.size = 60 := rfl
theorem held_inl (flags : Int) : ((heldS flags).toList == [105, 110, 108, 105, 110, 101, 32, 100, 97, 116, 97]) = inlB flags := by
  rw [Go.ByteArray.toList_eq]
  unfold heldS
  cases inlB flags <;> cases extB flags <;> decide

set_option maxHeartbeats 1000000 in
theorem law_in (ino typ perm uid gid size mtime flags : Int) (xs : Array Value) (hx : xs.size = 60) (a : Option Addr) (b off n c : Nat) (f : Nat → Int) (w : World) (h : n ≤ 1048576) (f0 : 0 ≤ flags) (f1 : flags < 4294967296)
    (h0 : a = none → n = 0 ∧ c = 0) (hab : 0 < n → a = some ⟨b, off, none⟩) (hc : ∀ j, j < n → w.cell? ⟨b, off + j, none⟩ = some (.int .u8 (f j))) :
    Calls Try.prog 3 #[.int .u32 ino, .int .u8 typ, .int .u16 perm, .int .u32 uid, .int .u32 gid, .int .u64 size, .int .i64 mtime, .int .u32 flags, .agg xs, .slice a n c] w fun e w' => e = .returned (.bool true) ∧ Below w.heap.size w w' := by
  have HS : Hid ((Try.prog.info? 25).map (·.size) = some xs.size) := by rw [hx]; exact size25
  have HX : Hid (xs.size = 60 ∧ (a = none → n = 0 ∧ c = 0) ∧ (0 < n → a = some ⟨b, off, none⟩) ∧ (∀ j, j < n → w.cell? ⟨b, off + j, none⟩ = some (.int .u8 (f j))) ∧ 0 ≤ flags ∧ flags < 4294967296) := ⟨hx, h0, hab, hc, f0, f1⟩
  clear hx h0 hab hc
  have hW : Below w.heap.size w (w.alloc (.cells xs 25)) := (Below.refl _ w).alloc (Nat.le_refl _) _
  have hG : (w.alloc (.cells xs 25)).heap[w.heap.size]? = some (.cells xs 25 (0, 0)) := heap_alloc_new w _
  have HW : Hid (Below w.heap.size w (w.alloc (.cells xs 25)) ∧ (w.alloc (.cells xs 25)).heap[w.heap.size]? = some (.cells xs 25 (0, 0)) ∧ w.heap.size < (w.alloc (.cells xs 25)).heap.size) := ⟨hW, hG, by simp⟩
  clear hW hG
  go_enter Try.func3, Try.ntmps3
  go_wp2_with (refine wpList_load_row rfl 25 (.tmp 18) rfl w.heap.size rfl 25 xs (0, 0) _ (heap_alloc_new w _) Try.underlying25 rfl HS.out ?_)
  refine (bytes_yes ino typ perm uid gid size mtime flags xs a n c _ h).mono ?_
  rintro e w1 ⟨rfl, hb1⟩
  have H1 : Hid (Below w.heap.size w w1 ∧ w1.heap[w.heap.size]? = some (.cells xs 25 (0, 0)) ∧ w.heap.size < w1.heap.size) := ⟨HW.out.1.trans (hb1.mono HW.out.1.size), (hb1.block _ HW.out.2.2).trans HW.out.2.1, Nat.lt_of_lt_of_le HW.out.2.2 hb1.size⟩
  clear hb1 HW
  go_wp2_with fail
  refine (clone5 a b off n c f w1 h HX.out.2.1 HX.out.2.2.1 (fun j hj => (H1.out.1.cell (p := ⟨b, off + j, none⟩) (World.block_lt_of_cell? _ _ (HX.out.2.2.2.1 j hj))).trans (HX.out.2.2.2.1 j hj))).mono ?_
  rintro e w2 ⟨g, rfl, hb2⟩
  have H2 : Hid (Below w.heap.size w w2 ∧ w2.heap[w.heap.size]? = some (.cells xs 25 (0, 0)) ∧ w.heap.size < w2.heap.size) := ⟨H1.out.1.trans (hb2.mono H1.out.1.size), (hb2.block _ H1.out.2.2).trans H1.out.2.1, Nat.lt_of_lt_of_le H1.out.2.2 hb2.size⟩
  clear hb2 H1
  go_wp2_with (refine wpList_load_row rfl 25 (.tmp 18) rfl w.heap.size rfl 25 xs (0, 0) _ H2.out.2.1 Try.underlying25 rfl HS.out ?_)
  refine (newFile ino typ perm uid gid size mtime flags xs HX.out.1 g n n w2).mono ?_
  rintro e w3 ⟨rfl, hb3, c1, c5, c7⟩
  have H3 : Hid (Below w.heap.size w w3) := H2.out.1.trans (hb3.mono H2.out.1.size)
  obtain ⟨fb, hfb⟩ : ∃ fb, fastB typ size flags = fb := ⟨_, rfl⟩
  have HB : Hid (fastB typ size flags = fb) := hfb
  clear hfb hb3 H2
  go_wp2_with fail
  refine (fast7 _ typ size flags w3 fb HB.out c1 c5 c7).mono ?_
  rintro e w4 ⟨rfl, rfl⟩
  go_wp2_with fail
  refine (held8 _ flags _ c7).mono ?_
  rintro e w5 ⟨rfl, rfl⟩
  obtain ⟨hs, hhs⟩ : ∃ hs, hs = heldS flags := ⟨_, rfl⟩
  obtain ⟨ib, hib⟩ : ∃ ib, inlB flags = ib := ⟨_, rfl⟩
  have hqs : (hs.toList == [105, 110, 108, 105, 110, 101, 32, 100, 97, 116, 97]) = ib := by rw [hhs, held_inl, hib]
  have hqi : (bits BinOp.and IntKind.u32 flags 268435456 != 0) = ib := hib
  rw [← hhs]
  have HI : Hid (inlB flags = ib) := hib
  clear c1 c5 c7 hhs hib
  have s32 : IntKind.u32.signed = false := rfl
  have s16 : IntKind.u16.signed = false := rfl
  have s64 : IntKind.i64.signed = true := rfl
  go_wp2_with (refine wpList_build rfl 25 #[] rfl zeros25 ?_ ?_; exact built25)
  refine (newFile _ typ _ _ _ size _ _ zeros25 zeros_size none 0 0 _).mono ?_
  rintro e w6 ⟨rfl, hb6, c1, c5, c7⟩
  have H6 : Hid (Below w.heap.size w w6) := H3.out.trans (hb6.mono H3.out.size)
  clear hb6 H3 s32 s16 s64
  obtain ⟨fl, hfl⟩ : ∃ fl, fl = bits BinOp.xor IntKind.u32 flags 4026531839 := ⟨_, rfl⟩
  have HI2 : Hid (inlB fl = ib) := by rw [hfl, inlB_xor flags f0 f1]; exact HI.out
  rw [← hfl] at c7
  have hB2 : fastB typ size fl = fb := by rw [← HB.out]; unfold fastB; rw [HI2.out, HI.out]
  have HB2 : Hid (fastB typ size fl = fb) := hB2
  clear hB2
  obtain ⟨hs2, hhs2⟩ : ∃ hs2, hs2 = heldS fl := ⟨_, rfl⟩
  have hqs2 : (hs2.toList == [105, 110, 108, 105, 110, 101, 32, 100, 97, 116, 97]) = ib := by rw [hhs2, held_inl]; exact HI2.out
  have HH2 : Hid (hs2 = heldS fl) := hhs2
  clear hfl hhs2
  have hfb : fb = ((typ == 108) && !ib && decide (size < 60)) := by rw [← HB.out, ← HI.out]; rfl
  by_cases ht : typ = 108
  · subst ht
    by_cases hz : size < 60
    · cases ib
      · obtain rfl : fb = true := by rw [hfb]; simp [hz]
        clear hfb
        go_wp2_with fail
        refine (fast7 _ 108 size fl w6 true HB2.out c1 c5 c7).mono ?_
        rintro e w7 ⟨rfl, rfl⟩
        go_wp2_with fail
        refine (held8 _ fl _ c7).mono ?_
        rintro e w8 ⟨rfl, rfl⟩
        rw [← HH2.out]
        go_wp2
        go_ret
        exact ⟨rfl, H6.out⟩
      · obtain rfl : fb = false := by rw [hfb]; simp
        clear hfb
        go_wp2_with fail
        refine (fast7 _ 108 size fl w6 false HB2.out c1 c5 c7).mono ?_
        rintro e w7 ⟨rfl, rfl⟩
        go_wp2_with fail
        refine (held8 _ fl _ c7).mono ?_
        rintro e w8 ⟨rfl, rfl⟩
        rw [← HH2.out]
        go_wp2
        go_ret
        exact ⟨rfl, H6.out⟩
    · cases ib
      · obtain rfl : fb = false := by rw [hfb]; simp [hz]
        clear hfb
        go_wp2_with fail
        refine (fast7 _ 108 size fl w6 false HB2.out c1 c5 c7).mono ?_
        rintro e w7 ⟨rfl, rfl⟩
        go_wp2_with fail
        refine (held8 _ fl _ c7).mono ?_
        rintro e w8 ⟨rfl, rfl⟩
        rw [← HH2.out]
        go_wp2
        go_ret
        exact ⟨rfl, H6.out⟩
      · obtain rfl : fb = false := by rw [hfb]; simp
        clear hfb
        go_wp2_with fail
        refine (fast7 _ 108 size fl w6 false HB2.out c1 c5 c7).mono ?_
        rintro e w7 ⟨rfl, rfl⟩
        go_wp2_with fail
        refine (held8 _ fl _ c7).mono ?_
        rintro e w8 ⟨rfl, rfl⟩
        rw [← HH2.out]
        go_wp2
        go_ret
        exact ⟨rfl, H6.out⟩
  · have htb : (typ == 108) = false := by rw [beq_eq_false_iff_ne]; exact ht
    obtain rfl : fb = false := by rw [hfb, htb]; rfl
    clear hfb
    cases ib
    · go_wp2_with fail
      refine (fast7 _ typ size fl w6 false HB2.out c1 c5 c7).mono ?_
      rintro e w7 ⟨rfl, rfl⟩
      go_wp2_with fail
      refine (held8 _ fl _ c7).mono ?_
      rintro e w8 ⟨rfl, rfl⟩
      rw [← HH2.out]
      go_wp2
      go_ret
      exact ⟨rfl, H6.out⟩
    · go_wp2_with fail
      refine (fast7 _ typ size fl w6 false HB2.out c1 c5 c7).mono ?_
      rintro e w7 ⟨rfl, rfl⟩
      go_wp2_with fail
      refine (held8 _ fl _ c7).mono ?_
      rintro e w8 ⟨rfl, rfl⟩
      rw [← HH2.out]
      go_wp2
      go_ret
      exact ⟨rfl, H6.out⟩
end Go.Proofs.Qxb6605650a
