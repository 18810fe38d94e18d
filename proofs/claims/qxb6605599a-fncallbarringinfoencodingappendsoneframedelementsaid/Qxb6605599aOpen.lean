/-
  Seat b6605599a: from the arguments as data to what the walk asks; the law whole.
-/
import Derived.Test.Qxb6605599aLaw
import Derived.ProofKit
import Derived.OpenShut
import Derived.ChangeOld
import Derived.Below
import Derived.Deep.Slices
namespace Go.Proofs.Qxb6605599a
open Go.ChangeShapes Go.WideShapes Go.ChangeAt Go.RowKit

theorem own : ownKnob Try.prog.godebug = none := by kernel_rfl
theorem laidOut : laidOutB Try.prog = true := by kernel_rfl
theorem cells5 : Try.prog.cellsOf 5 = 1 := by kernel_rfl
theorem cells4 : Try.prog.cellsOf 4 = 1 := by kernel_rfl
theorem cells36 : Try.prog.cellsOf 36 = 5 := by kernel_rfl

theorem byte_bounds {x : Int} (h : (Lit.int .u8 x).wf = true) : 0 ≤ x ∧ x ≤ 255 := by
  simp [Lit.wf, IntKind.min, IntKind.max, IntKind.signed, IntKind.bits] at h
  omega

theorem one_cell {cs : List Value} {o : Nat} {v : Value} (h : (cs.drop o).take 1 = [v]) : cs[o]? = some v := by
  have h1 : ((cs.drop o).take 1)[0]? = some v := by rw [h]; rfl
  rw [List.getElem?_take, if_pos (by decide), List.getElem?_drop] at h1
  exact h1

/-- One feature in memory. -/
theorem feat_at {H : Type} {enc : TypeId × Value → H} {W : World} {a : Addr} {cs : List Value} {n : Nat} {x : DataW H × List MemPlace} (hc : W.cells? 0 a 5 = some cs) (h : DataW.trod enc Try.prog W 0 (fun _ => true) true n 36 cs = some x) :
    ∃ f : Feat, (0 ≤ f.kind ∧ f.kind ≤ 255) ∧ W.cell? (a.add 0) = some (.int .u8 f.kind) ∧ W.cell? (a.add 1) = some (.int .u8 f.code) ∧ W.cell? (a.add 2) = some (.bool f.hasB) ∧ W.cell? (a.add 3) = some (.int .u8 f.st) ∧ W.cell? (a.add 4) = some (.bool f.hasS) := by
  obtain ⟨_, hl, hcell⟩ := World.cells?_some hc
  obtain ⟨xs, n', _, _, _, hxl, hf⟩ := DataW.trod_struct Try.underlying36 h
  have hx : ∀ i, i < 5 → ∃ y, xs[i]? = some y := fun i hi => ⟨_, List.getElem?_eq_getElem (by rw [hxl]; exact hi)⟩
  obtain ⟨y0, e0⟩ := hx 0 (by decide)
  obtain ⟨y1, e1⟩ := hx 1 (by decide)
  obtain ⟨y2, e2⟩ := hx 2 (by decide)
  obtain ⟨y3, e3⟩ := hx 3 (by decide)
  obtain ⟨y4, e4⟩ := hx 4 (by decide)
  have f0 : DataW.trod enc Try.prog W 0 (fun _ => true) true n' 5 ((cs.drop 0).take (Try.prog.cellsOf 5)) = xs[0]? := hf 0 _ rfl
  rw [e0, cells5] at f0
  have f1 : DataW.trod enc Try.prog W 0 (fun _ => true) true n' 5 ((cs.drop 1).take (Try.prog.cellsOf 5)) = xs[1]? := hf 1 _ rfl
  rw [e1, cells5] at f1
  have f2 : DataW.trod enc Try.prog W 0 (fun _ => true) true n' 4 ((cs.drop 2).take (Try.prog.cellsOf 4)) = xs[2]? := hf 2 _ rfl
  rw [e2, cells4] at f2
  have f3 : DataW.trod enc Try.prog W 0 (fun _ => true) true n' 5 ((cs.drop 3).take (Try.prog.cellsOf 5)) = xs[3]? := hf 3 _ rfl
  rw [e3, cells5] at f3
  have f4 : DataW.trod enc Try.prog W 0 (fun _ => true) true n' 4 ((cs.drop 4).take (Try.prog.cellsOf 4)) = xs[4]? := hf 4 _ rfl
  rw [e4, cells4] at f4
  obtain ⟨k, k0, _, wk⟩ := DataW.trod_int Try.underlying5 f0
  obtain ⟨c, c0, _, _⟩ := DataW.trod_int Try.underlying5 f1
  obtain ⟨p, p0, _⟩ := DataW.trod_bool Try.underlying4 f2
  obtain ⟨s, s0, _, _⟩ := DataW.trod_int Try.underlying5 f3
  obtain ⟨q, q0, _⟩ := DataW.trod_bool Try.underlying4 f4
  refine ⟨⟨k, c, p, s, q⟩, byte_bounds wk, ?_, ?_, ?_, ?_, ?_⟩
  · rw [hcell 0 (by decide)]; exact one_cell k0
  · rw [hcell 1 (by decide)]; exact one_cell c0
  · rw [hcell 2 (by decide)]; exact one_cell p0
  · rw [hcell 3 (by decide)]; exact one_cell s0
  · rw [hcell 4 (by decide)]; exact one_cell q0

/-- A slice of features that came in. -/
theorem feats_of {H : Type} {enc : TypeId × Value → H} {W : World} {a : Option Addr} {len cap : Nat} {d : DataW H} {p : List MemPlace}
    (h : DataW.Trod enc Try.prog W 0 (fun _ => true) true 23 (.slice a len cap) d p) :
    len ≤ maxLen ∧ (a = none → len = 0 ∧ cap = 0) ∧ ∃ (b off : Nat) (F : Nat → Feat), Feats W a b off len F := by
  obtain ⟨fuel, hf⟩ := h
  rcases Go.Deep.open_slice Try.underlying23 hf with ⟨hcs, _⟩ | ⟨x, l, c, m, n, D, Pl, hcs, _, hl, hm, hmm, _, hel⟩
  · simp [Value.cells] at hcs
    obtain ⟨rfl, rfl, rfl⟩ := hcs
    exact ⟨Nat.zero_le _, fun _ => ⟨rfl, rfl⟩, 0, 0, fun _ => zeroV, fun h => absurd h (Nat.lt_irrefl _), fun i h => absurd h (Nat.not_lt_zero _), fun i h => absurd h (Nat.not_lt_zero _), fun i h => absurd h (Nat.not_lt_zero _), fun i h => absurd h (Nat.not_lt_zero _), fun i h => absurd h (Nat.not_lt_zero _), fun i h => absurd h (Nat.not_lt_zero _)⟩
  · simp [Value.cells] at hcs
    obtain ⟨rfl, rfl, rfl⟩ := hcs
    simp only [if_true] at hmm
    subst hmm
    have each : ∀ i, i < len → ∃ f : Feat, (0 ≤ f.kind ∧ f.kind ≤ 255) ∧ W.cell? ((x.add (i * 5)).add 0) = some (.int .u8 f.kind) ∧ W.cell? ((x.add (i * 5)).add 1) = some (.int .u8 f.code) ∧ W.cell? ((x.add (i * 5)).add 2) = some (.bool f.hasB) ∧ W.cell? ((x.add (i * 5)).add 3) = some (.int .u8 f.st) ∧ W.cell? ((x.add (i * 5)).add 4) = some (.bool f.hasS) := by
      intro i hi
      obtain ⟨cs', h1, h2⟩ := hel i (by omega)
      rw [cells36] at h1
      exact feat_at h1 h2
    obtain ⟨F, hF⟩ := @Go.Deep.choose_lt Feat ⟨zeroV⟩ len _ each
    obtain ⟨b, off, spot⟩ := x
    have hspot : 0 < len → spot = none := fun h0 => by simpa [Addr.add] using World.cell?_spot (hF 0 h0).2.1
    have key : ∀ i r, i < len → ((⟨b, off, spot⟩ : Addr).add (i * 5)).add r = ⟨b, off + i * 5 + r, none⟩ := by
      intro i r hi
      rw [hspot (by omega), Go.WideShapes.add_plain, Go.WideShapes.add_plain]
    refine ⟨Nat.le_trans hl hm, fun h => by (cases h), b, off, F, fun h0 => by rw [hspot h0], fun i hi => (hF i hi).1, ?_, ?_, ?_, ?_, ?_⟩
    · intro i hi; have := (hF i hi).2.1; rwa [key i 0 hi] at this
    · intro i hi; have := (hF i hi).2.2.1; rwa [key i 1 hi] at this
    · intro i hi; have := (hF i hi).2.2.2.1; rwa [key i 2 hi] at this
    · intro i hi; have := (hF i hi).2.2.2.2.1; rwa [key i 3 hi] at this
    · intro i hi; have := (hF i hi).2.2.2.2.2; rwa [key i 4 hi] at this

/-- A slice of bytes that came in. -/
theorem bytes_of {H : Type} {enc : TypeId × Value → H} {W : World} {a : Option Addr} {len cap : Nat} {d : DataW H} {p : List MemPlace}
    (h : DataW.Trod enc Try.prog W 0 (fun _ => true) true 22 (.slice a len cap) d p) :
    len ≤ maxLen ∧ (a = none → len = 0 ∧ cap = 0) ∧ ∃ (b off : Nat) (xs : List Int), xs.length = len ∧ (0 < len → a = some ⟨b, off, none⟩) ∧ ∀ j y, xs[j]? = some y → W.cell? ⟨b, off + j, none⟩ = some (.int .u8 y) := by
  obtain ⟨fuel, hf⟩ := h
  rcases open_ints Try.underlying22 Try.underlying5 cells5 hf with ⟨hcs, _⟩ | ⟨x, l, c, zs, hcs, _, hl, hm, hz, _, hcell, hwz⟩
  · simp [Value.cells] at hcs
    obtain ⟨rfl, rfl, rfl⟩ := hcs
    exact ⟨Nat.zero_le _, fun _ => ⟨rfl, rfl⟩, 0, 0, [], rfl, fun h => absurd h (Nat.lt_irrefl _), fun j y hy => by simp at hy⟩
  · simp [Value.cells] at hcs
    obtain ⟨rfl, rfl, rfl⟩ := hcs
    simp only [if_true] at hz
    obtain ⟨b, off, spot⟩ := x
    have hspot : 0 < len → spot = none := fun h0 => by simpa [Addr.add] using World.cell?_spot (hcell 0 (by omega))
    refine ⟨Nat.le_trans hl hm, fun h => by (cases h), b, off, zs.take len, by rw [List.length_take]; omega, fun h0 => by rw [hspot h0], fun j y hy => ?_⟩
    have hj : j < len := by
      have := (List.getElem?_eq_some_iff.1 hy).1
      rw [List.length_take] at this
      omega
    rw [List.getElem?_take_of_lt hj] at hy
    have hc := hcell j (by omega)
    rw [hspot (by omega), Go.WideShapes.add_plain] at hc
    rw [hc]
    simp [List.getD, hy]

theorem law_any (a a3 : Option Addr) (b off n c b3 o3 m c3 : Nat) (xs : List Int) (F : Nat → Feat) (ss : Int) (has : Bool) (w : World) (hn : n ≤ maxLen) (hm : m ≤ maxLen)
    (hl : xs.length = n) (a0 : a = none → n = 0 ∧ c = 0) (a30 : a3 = none → m = 0 ∧ c3 = 0) (hab : 0 < n → a = some ⟨b, off, none⟩) (hc : ∀ j y, xs[j]? = some y → w.cell? ⟨b, off + j, none⟩ = some (.int .u8 y)) (hF : Feats w a3 b3 o3 m F) :
    Calls Try.prog 3 #[.slice a n c, .int .u8 ss, .bool has, .slice a3 m c3] w fun e w' => e = .returned (.bool true) ∧ Below w.heap.size w w' := by
  by_cases h : m ≤ 131072 ∧ n + 8 * m ≤ 1048576
  · exact law_in a a3 b off n c b3 o3 m c3 xs F ss has w h.1 h.2 hl a0 a30 hab hc hF
  · exact law_out a a3 n c m c3 ss has w hn hm h
end Go.Proofs.Qxb6605599a
