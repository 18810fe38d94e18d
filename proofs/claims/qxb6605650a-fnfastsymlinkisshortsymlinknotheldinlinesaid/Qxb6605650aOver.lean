/-
  Seat b6605650a: 'FnFastSymlinkIsShortSymlinkNotHeldInlineSaid', proved.
-/
import Derived.Test.Qxb6605650aLaw
import Derived.ProofKit
import Derived.OpenShut
import Derived.ChangeOld
import Derived.Below
namespace Go.Proofs.Qxb6605650a
open Go.ChangeShapes Go.WideShapes Go.ChangeAt Go.RowKit

theorem own : ownKnob Try.prog.godebug = none := by kernel_rfl
theorem laidOut : laidOutB Try.prog = true := by kernel_rfl
theorem cells5 : Try.prog.cellsOf 5 = 1 := by kernel_rfl
theorem cells25 : Try.prog.cellsOf 25 = 60 := by kernel_rfl

/-- An array by value. -/
theorem okWide_arr {w : World} {base : Nat} {v : Value} (h : Value.okWide Try.prog w .any base 25 v) : ∃ xs : Array Value, v = .agg xs ∧ xs.size = 60 := by
  simp only [Value.okWide, Try.underlying25] at h
  obtain ⟨cs, h1, h2, _⟩ := h
  exact ⟨cs, h1, by rw [h2, cells25]⟩

theorem u32_bounds {x : Int} (h : (Lit.int .u32 x).wf = true) : 0 ≤ x ∧ x < 4294967296 := by
  simp [Lit.wf, IntKind.min, IntKind.max, IntKind.signed, IntKind.bits] at h
  omega

/-- A slice of bytes that came in. -/
theorem bytes_of {H : Type} {enc : TypeId × Value → H} {W : World} {a : Option Addr} {len cap : Nat} {d : DataW H} {p : List MemPlace}
    (h : DataW.Trod enc Try.prog W 0 (fun _ => true) true 26 (.slice a len cap) d p) :
    len ≤ maxLen ∧ (a = none → len = 0 ∧ cap = 0) ∧ ∃ (b off : Nat) (f : Nat → Int), (0 < len → a = some ⟨b, off, none⟩) ∧ ∀ j, j < len → W.cell? ⟨b, off + j, none⟩ = some (.int .u8 (f j)) := by
  obtain ⟨fuel, hf⟩ := h
  rcases open_ints Try.underlying26 Try.underlying5 cells5 hf with ⟨hcs, _⟩ | ⟨x, l, c, zs, hcs, _, hl, hm, hz, _, hcell, hwz⟩
  · simp [Value.cells] at hcs
    obtain ⟨rfl, rfl, rfl⟩ := hcs
    exact ⟨Nat.zero_le _, fun _ => ⟨rfl, rfl⟩, 0, 0, fun _ => 0, fun h => absurd h (Nat.lt_irrefl _), fun j h => absurd h (Nat.not_lt_zero _)⟩
  · simp [Value.cells] at hcs
    obtain ⟨rfl, rfl, rfl⟩ := hcs
    simp only [if_true] at hz
    obtain ⟨b, off, spot⟩ := x
    refine ⟨Nat.le_trans hl hm, fun h => by (cases h), b, off, fun j => zs.getD j 0, fun h0 => ?_, fun j hj => ?_⟩
    · have hspot : spot = none := by simpa [Addr.add] using World.cell?_spot (hcell 0 (by omega))
      rw [hspot]
    · have hspot : spot = none := by simpa [Addr.add] using World.cell?_spot (hcell 0 (by omega))
      subst hspot
      rw [← add_plain]
      exact hcell j (by omega)

theorem law_any (ino typ perm uid gid size mtime flags : Int) (xs : Array Value) (hx : xs.size = 60) (a : Option Addr) (b off n c : Nat) (f : Nat → Int) (w : World) (hn : n ≤ maxLen) (f0 : 0 ≤ flags) (f1 : flags < 4294967296)
    (h0 : a = none → n = 0 ∧ c = 0) (hab : 0 < n → a = some ⟨b, off, none⟩) (hc : ∀ j, j < n → w.cell? ⟨b, off + j, none⟩ = some (.int .u8 (f j))) :
    Calls Try.prog 3 #[.int .u32 ino, .int .u8 typ, .int .u16 perm, .int .u32 uid, .int .u32 gid, .int .u64 size, .int .i64 mtime, .int .u32 flags, .agg xs, .slice a n c] w fun e w' => e = .returned (.bool true) ∧ Below w.heap.size w w' := by
  by_cases h : n ≤ 1048576
  · exact law_in ino typ perm uid gid size mtime flags xs hx a b off n c f w h f0 f1 h0 hab hc
  · exact law_out ino typ perm uid gid size mtime flags xs hx a n c w hn h

set_option maxRecDepth 100000 in
theorem lifted (os : Os) (started : os.Started) (H : Type) (enc : TypeId × Value → H) :
    ReturnsInHanded {} Try.checked os 3 .any (Rows.fnFastSymlinkIsShortSymlinkNotHeldInlineSpec.pre6 enc Try.prog Try.f3 Rows.fnFastSymlinkIsShortSymlinkNotHeldInlineRow.domain false) (Rows.fnFastSymlinkIsShortSymlinkNotHeldInlineSpec.post enc Try.prog Try.f3 false true false false) := by
  refine returnsInHanded_of_change (C := Try.checked) own started (by kernel_rfl) Try.func3
    (ChangeSpec.witness6 (enc := enc) (C := Try.checked) false ⟨#[], #[.int .u32 0, .int .u8 0, .int .u16 0, .int .u32 0, .int .u32 0, .int .u64 0, .int .i64 0, .int .u32 0, .agg (Array.replicate 60 (.int .u8 0)), .slice none 0 0], []⟩ 8 (by kernel_rfl) (by kernel_rfl) (by kernel_rfl) (by kernel_rfl)) ?_
  intro W base args ds gs before hval0 hW hcnd _
  have hval : ∀ (j : Nat) t v, Try.f3.params[j]? = some t → args[j]? = some v → Value.okWide Try.prog W .any base t v := hval0
  have hW' := hW
  obtain ⟨p, q, hA0, hV, rfl, hfz, hnd⟩ := hW
  have hA : DataW.TrodAll enc Try.prog W 0 (fun _ => true) true Try.f3.params.toList args.toList ds p := hA0
  rw [Try.params3] at hA hval
  obtain ⟨v0, vs0, d0, ds0, p0, q0, hargs, rfl, rfl, h0, r0⟩ := trodAll_cons hA
  obtain ⟨v1, vs1, d1, ds1, p1, q1, rfl, rfl, rfl, h1, r1⟩ := trodAll_cons r0
  obtain ⟨v2, vs2, d2, ds2, p2, q2, rfl, rfl, rfl, h2, r2⟩ := trodAll_cons r1
  obtain ⟨v3, vs3, d3, ds3, p3, q3, rfl, rfl, rfl, h3, r3⟩ := trodAll_cons r2
  obtain ⟨v4, vs4, d4, ds4, p4, q4, rfl, rfl, rfl, h4, r4⟩ := trodAll_cons r3
  obtain ⟨v5, vs5, d5, ds5, p5, q5, rfl, rfl, rfl, h5, r5⟩ := trodAll_cons r4
  obtain ⟨v6, vs6, d6, ds6, p6, q6, rfl, rfl, rfl, h6, r6⟩ := trodAll_cons r5
  obtain ⟨v7, vs7, d7, ds7, p7, q7, rfl, rfl, rfl, h7, r7⟩ := trodAll_cons r6
  obtain ⟨v8, vs8, d8, ds8, p8, q8, rfl, rfl, rfl, h8, r8⟩ := trodAll_cons r7
  obtain ⟨v9, vs9, d9, ds9, p9, q9, rfl, rfl, rfl, h9, r9⟩ := trodAll_cons r8
  obtain ⟨rfl, rfl, rfl⟩ := trodAll_nil r9
  obtain rfl : args = #[v0, v1, v2, v3, v4, v5, v6, v7, v8, v9] := by cases args; simp_all
  obtain ⟨rfl, rfl⟩ := trodVars_none hV
  obtain ⟨x0, rfl, rfl, rfl, w0⟩ := open_int Try.underlying22 (hval 0 22 v0 rfl rfl) h0
  obtain ⟨x1, rfl, rfl, rfl, w1⟩ := open_int Try.underlying5 (hval 1 5 v1 rfl rfl) h1
  obtain ⟨x2, rfl, rfl, rfl, w2⟩ := open_int Try.underlying23 (hval 2 23 v2 rfl rfl) h2
  obtain ⟨x3, rfl, rfl, rfl, w3⟩ := open_int Try.underlying22 (hval 3 22 v3 rfl rfl) h3
  obtain ⟨x4, rfl, rfl, rfl, w4⟩ := open_int Try.underlying22 (hval 4 22 v4 rfl rfl) h4
  obtain ⟨x5, rfl, rfl, rfl, w5⟩ := open_int Try.underlying24 (hval 5 24 v5 rfl rfl) h5
  obtain ⟨x6, rfl, rfl, rfl, w6⟩ := open_int Try.underlying2 (hval 6 2 v6 rfl rfl) h6
  obtain ⟨x7, rfl, rfl, rfl, w7⟩ := open_int Try.underlying22 (hval 7 22 v7 rfl rfl) h7
  obtain ⟨xs, rfl, hxs⟩ := okWide_arr (hval 8 25 v8 rfl rfl)
  have lt8 : ∀ x ∈ p8, x.block < W.heap.size := by obtain ⟨m, hm⟩ := h8; exact DataW.trod_lt m _ _ _ hm
  obtain ⟨a9, len9, cap9, rfl⟩ := okWide_slice Try.underlying26 (hval 9 26 v9 rfl rfl)
  have lt9 : ∀ x ∈ p9, x.block < W.heap.size := by obtain ⟨m, hm⟩ := h9; exact DataW.trod_lt m _ _ _ hm
  clear hA0 hval0
  obtain ⟨m9, n9, b9, o9, f9, ha9, hc9⟩ := bytes_of h9
  refine (law_any x0 x1 x2 x3 x4 x5 x6 x7 xs hxs a9 b9 o9 len9 cap9 f9 W m9 (u32_bounds w7).1 (u32_bounds w7).2 n9 ha9 hc9).mono fun e W' ⟨he, bel⟩ => ?_
  subst he
  exact ⟨_, rfl, _, _, _, [], _, [], hW', trodAll_mk1 (shut_bool Try.underlying4 _), (trodAll_cons_mk (shut_int Try.underlying22 w0) (trodAll_cons_mk (shut_int Try.underlying5 w1) (trodAll_cons_mk (shut_int Try.underlying23 w2) (trodAll_cons_mk (shut_int Try.underlying22 w3) (trodAll_cons_mk (shut_int Try.underlying22 w4) (trodAll_cons_mk (shut_int Try.underlying24 w5) (trodAll_cons_mk (shut_int Try.underlying2 w6) (trodAll_cons_mk (shut_int Try.underlying22 w7) (trodAll_cons_mk (Below.trod laidOut (by kernel_rfl) (of_decide_eq_true (by kernel_rfl)) h8 bel lt8) (trodAll_cons_mk (Below.trod laidOut (by kernel_rfl) (of_decide_eq_true (by kernel_rfl)) h9 bel lt9) trodAll_mk0)))))))))), rfl, bel.frame _, fun h => by cases h⟩

theorem over : Rows.fnFastSymlinkIsShortSymlinkNotHeldInlineRow.holds Try.pinned (OpenSpec.ofChange Rows.fnFastSymlinkIsShortSymlinkNotHeldInlineSpec) :=
  OpenClaim.holds_of_wide 3 Try.f3 rfl rfl rfl rfl rfl rfl rfl ⟨rfl, rfl, rfl, rfl, rfl⟩ rfl rfl rfl rfl rfl (by kernel_rfl) Try.func3 (by kernel_rfl)
    (of_decide_eq_true (by kernel_rfl)) (by unfold Func.isWrapper; first | (rw [if_pos (by decide +kernel)]; kernel_rfl) | (rw [if_neg (by decide +kernel)]; exact ⟨rfl, rfl⟩))
    (fun os started H enc _ => lifted os started H enc)

theorem proved : Rows.FnFastSymlinkIsShortSymlinkNotHeldInlineSaid := over
end Go.Proofs.Qxb6605650a
