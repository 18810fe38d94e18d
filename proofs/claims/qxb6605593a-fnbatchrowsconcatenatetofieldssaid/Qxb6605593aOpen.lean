/-
  Seat b6605593a: from the arguments as data to what the walks ask; each law whole, over every input.
-/
import Derived.Test.Qxb6605593aConcat
import Derived.ProofKit
import Derived.OpenShut
import Derived.SliceStrings
import Derived.ChangeOld
import Derived.Below
namespace Go.Proofs.Qxb6605593a
open Go.ChangeShapes Go.WideShapes Go.ChangeAt Go.RowKit

theorem own : ownKnob Try.prog.godebug = none := by kernel_rfl
theorem laidOut : laidOutB Try.prog = true := by kernel_rfl
theorem cells9 : Try.prog.cellsOf 9 = 1 := by kernel_rfl
theorem cells3 : Try.prog.cellsOf 3 = 1 := by kernel_rfl

/-- A slice of strings that came in. -/
theorem strs_of {H : Type} {enc : TypeId × Value → H} {W : World} {a : Option Addr} {len cap : Nat} {d : DataW H} {p : List MemPlace}
    (h : DataW.Trod enc Try.prog W 0 (fun _ => true) true 22 (.slice a len cap) d p) :
    len ≤ maxLen ∧ (a = none → len = 0 ∧ cap = 0) ∧ ∃ (b off : Nat) (f : Nat → ByteArray), (0 < len → a = some ⟨b, off, none⟩) ∧ (∀ j, j < len → W.cell? ⟨b, off + j, none⟩ = some (.string (f j))) ∧ ∀ j, j < len → (f j).size ≤ maxLen := by
  obtain ⟨fuel, hf⟩ := h
  rcases open_strings Try.underlying22 Try.underlying9 cells9 hf with ⟨hcs, _⟩ | ⟨x, l, c, ss, hcs, _, hl, hm, hz, _, hcell, hws⟩
  · simp [Value.cells] at hcs
    obtain ⟨rfl, rfl, rfl⟩ := hcs
    exact ⟨Nat.zero_le _, fun _ => ⟨rfl, rfl⟩, 0, 0, fun _ => ByteArray.empty, fun h => absurd h (Nat.lt_irrefl _), fun j h => absurd h (Nat.not_lt_zero _), fun j h => absurd h (Nat.not_lt_zero _)⟩
  · simp [Value.cells] at hcs
    obtain ⟨rfl, rfl, rfl⟩ := hcs
    simp only [if_true] at hz
    obtain ⟨b, off, spot⟩ := x
    refine ⟨Nat.le_trans hl hm, fun h => by (cases h), b, off, fun j => ss.getD j ByteArray.empty, fun h0 => ?_, fun j hj => ?_, fun j hj => ?_⟩
    · have hspot : spot = none := by simpa [Addr.add] using World.cell?_spot (hcell 0 (by omega))
      rw [hspot]
    · have hspot : spot = none := by simpa [Addr.add] using World.cell?_spot (hcell 0 (by omega))
      subst hspot
      rw [← add_plain]
      exact hcell j (by omega)
    · have hjl : j < ss.length := by omega
      refine hws _ ?_
      show ss.getD j ByteArray.empty ∈ ss
      rw [List.getD_eq_getElem?_getD, List.getElem?_eq_getElem hjl]
      exact List.getElem_mem hjl

/-- A slice of ints that came in. -/
theorem ints_of {H : Type} {enc : TypeId × Value → H} {W : World} {a : Option Addr} {len cap : Nat} {d : DataW H} {p : List MemPlace}
    (h : DataW.Trod enc Try.prog W 0 (fun _ => true) true 23 (.slice a len cap) d p) :
    len ≤ maxLen ∧ (a = none → len = 0 ∧ cap = 0) ∧ ∃ (b off : Nat) (f : Nat → Int), (0 < len → a = some ⟨b, off, none⟩) ∧ ∀ j, j < len → W.cell? ⟨b, off + j, none⟩ = some (.int .i64 (f j)) := by
  obtain ⟨fuel, hf⟩ := h
  rcases open_ints Try.underlying23 Try.underlying3 cells3 hf with ⟨hcs, _⟩ | ⟨x, l, c, zs, hcs, _, hl, hm, hz, _, hcell, hwz⟩
  · simp [Value.cells] at hcs
    obtain ⟨rfl, rfl, rfl⟩ := hcs
    exact ⟨Nat.zero_le _, fun _ => ⟨rfl, rfl⟩, 0, 0, fun _ => 0, fun h => absurd h (Nat.lt_irrefl _), fun j h => absurd h (Nat.not_lt_zero _)⟩
  · simp [Value.cells] at hcs
    obtain ⟨rfl, rfl, rfl⟩ := hcs
    simp only [if_true] at hz
    obtain ⟨b, off, spot⟩ := x
    refine ⟨Nat.le_trans hl hm, fun h => by (cases h), b, off, fun j => zs.getD j 0, fun h0 => ?_, fun j hj => ?_⟩
    · have hspot : spot = none := by simpa [Addr.add] using World.cell?_spot (hcell 0 (by omega))
      rw [hspot]
    · have hspot : spot = none := by simpa [Addr.add] using World.cell?_spot (hcell 0 (by omega))
      subst hspot
      rw [← add_plain]
      exact hcell j (by omega)

/-- A whole number of rows. -/
theorem whole {n m : Nat} {wd : Int} (h1 : 1 ≤ wd) (h2 : (n : Int) % wd = 0) (h3 : (m : Int) = (n : Int) / wd) : ∃ W : Nat, wd = (W : Int) ∧ 0 < W ∧ n = m * W := by
  obtain ⟨W, rfl⟩ := Int.eq_ofNat_of_zero_le (show 0 ≤ wd by omega)
  refine ⟨W, rfl, by omega, ?_⟩
  have h4 := Int.mul_ediv_add_emod (n : Int) (W : Int)
  rw [h2, ← h3] at h4
  have h5 : ((m * W : Nat) : Int) = (n : Int) := by push_cast; rw [Int.mul_comm]; omega
  omega

theorem picks_any (a a2 : Option Addr) (b off n c b2 off2 m c2 : Nat) (f : Nat → ByteArray) (fi : Nat → Int) (wd i : Int) (w : World) (S : Slices w a a2 b off n c b2 off2 m c2 f fi) :
    Calls Try.prog 3 #[.slice a n c, .int .i64 wd, .slice a2 m c2, .int .i64 i] w fun e w' => e = .returned (.bool true) ∧ Below w.heap.size w w' := by
  by_cases h1 : wd < 1
  · exact picks_out a a2 b off n c b2 off2 m c2 f fi wd i w S (.inl h1)
  by_cases h2 : (n : Int) % wd = 0
  · by_cases h3 : (m : Int) = (n : Int) / wd
    · by_cases h4 : i < 0 ∨ (n : Int) / wd ≤ i
      · exact picks_out a a2 b off n c b2 off2 m c2 f fi wd i w S (.inr (.inr (.inr ⟨by omega, h2, h3, h4⟩)))
      · obtain ⟨W, rfl, hW, hn⟩ := whole (by omega) h2 h3
        obtain ⟨I, rfl⟩ := Int.eq_ofNat_of_zero_le (show 0 ≤ i by omega)
        exact picks_in a a2 b off n c b2 off2 m c2 f fi W I w S hW (by omega) hn
    · exact picks_out a a2 b off n c b2 off2 m c2 f fi wd i w S (.inr (.inr (.inl ⟨by omega, h2, h3⟩)))
  · exact picks_out a a2 b off n c b2 off2 m c2 f fi wd i w S (.inr (.inl ⟨by omega, h2⟩))

theorem concat_any (a a2 : Option Addr) (b off n c b2 off2 m c2 : Nat) (f : Nat → ByteArray) (fi : Nat → Int) (wd : Int) (hwd : wd ≤ 9223372036854775807) (w : World) (S : Slices w a a2 b off n c b2 off2 m c2 f fi) :
    Calls Try.prog 4 #[.slice a n c, .int .i64 wd, .slice a2 m c2] w fun e w' => e = .returned (.bool true) ∧ Below w.heap.size w w' := by
  by_cases h1 : wd < 1
  · exact concat_out a a2 b off n c b2 off2 m c2 f fi wd w S (.inl h1)
  by_cases h2 : (n : Int) % wd = 0
  · by_cases h3 : (m : Int) = (n : Int) / wd
    · obtain ⟨W, rfl, hW, hn⟩ := whole (by omega) h2 h3
      exact concat_in a a2 b off n c b2 off2 m c2 f fi W w S hW hwd hn
    · exact concat_out a a2 b off n c b2 off2 m c2 f fi wd w S (.inr (.inr ⟨by omega, h2, h3⟩))
  · exact concat_out a a2 b off n c b2 off2 m c2 f fi wd w S (.inr (.inl ⟨by omega, h2⟩))
end Go.Proofs.Qxb6605593a
