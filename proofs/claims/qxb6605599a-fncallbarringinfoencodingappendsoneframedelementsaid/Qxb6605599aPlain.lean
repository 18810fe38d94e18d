/-
  Seat b6605599a: the encoding as plain functions: octets of a number, tags, lengths, elements.
-/
import Derived.KernelRfl
namespace Go.Proofs.Qxb6605599a

/-- The k low octets of x, big-endian. -/
def octs (x : Int) : Nat → List Int
  | 0 => []
  | k + 1 => x / 256 ^ k % 256 :: octs x k

theorem octs_length (x : Int) (k : Nat) : (octs x k).length = k := by
  induction k with
  | zero => rfl
  | succ k ih => simp [octs, ih]

/-- How many octets a tag takes (tags below 65536). -/
def tagK (t : Int) : Nat := if t < 256 then 1 else 2
/-- How many octets a length from 128 on takes (lengths below 2^24). -/
def lenK (m : Nat) : Nat := if m < 256 then 1 else if m < 65536 then 2 else 3
def lenB (m : Nat) : List Int := if m < 128 then [(m : Int)] else (128 + (lenK m : Int)) :: octs (m : Int) (lenK m)
/-- An element: tag, length, contents. -/
def tlv (t : Int) (cs : List Int) : List Int := octs t (tagK t) ++ (lenB cs.length ++ cs)

theorem tagK_le (t : Int) : 1 ≤ tagK t ∧ tagK t ≤ 2 := by unfold tagK; split <;> omega
theorem lenK_le (m : Nat) : 1 ≤ lenK m ∧ lenK m ≤ 3 := by unfold lenK; split <;> (try split) <;> omega
theorem lenB_length (m : Nat) : (lenB m).length = if m < 128 then 1 else 1 + lenK m := by
  unfold lenB; split
  · rfl
  · simp [octs_length]; omega
theorem lenB_length_le (m : Nat) : 1 ≤ (lenB m).length ∧ (lenB m).length ≤ 4 := by
  have := lenK_le m
  rw [lenB_length]; split <;> omega
theorem tlv_length (t : Int) (cs : List Int) : (tlv t cs).length = tagK t + ((lenB cs.length).length + cs.length) := by
  simp [tlv, octs_length]

/-- A call barring feature, field for field. -/
structure Feat where
  kind : Int
  code : Int
  hasB : Bool
  st : Int
  hasS : Bool

def basicB (f : Feat) : List Int := if f.hasB then tlv (128 + f.kind) [f.code] else []
def statusB (f : Feat) : List Int := if f.hasS then tlv 132 [f.st] else []
def featB (f : Feat) : List Int := basicB f ++ statusB f
/-- The first i features, one element each. -/
def listB (F : Nat → Feat) : Nat → List Int
  | 0 => []
  | i + 1 => listB F i ++ tlv 48 (featB (F i))
def codeB (ss : Int) (has : Bool) : List Int := if has then tlv 4 [ss] else []
def infoB (ss : Int) (has : Bool) (F : Nat → Feat) (m : Nat) : List Int := codeB ss has ++ tlv 48 (listB F m)
def encB (ss : Int) (has : Bool) (F : Nat → Feat) (m : Nat) : List Int := tlv 161 (infoB ss has F m)

theorem tlv_le (t : Int) (cs : List Int) : (tlv t cs).length ≤ cs.length + 6 ∧ cs.length + 2 ≤ (tlv t cs).length := by
  have h1 := tagK_le t
  have h2 := lenB_length_le cs.length
  rw [tlv_length]; omega
theorem basicB_le (f : Feat) : (basicB f).length ≤ 7 := by
  unfold basicB; split
  · exact (tlv_le _ _).1
  · simp
theorem statusB_le (f : Feat) : (statusB f).length ≤ 7 := by
  unfold statusB; split
  · exact (tlv_le _ _).1
  · simp
theorem featB_le (f : Feat) : (featB f).length ≤ 14 := by
  have h1 := basicB_le f
  have h2 := statusB_le f
  unfold featB
  rw [List.length_append]
  omega
theorem listB_le (F : Nat → Feat) (i : Nat) : (listB F i).length ≤ 20 * i := by
  induction i with
  | zero => simp [listB]
  | succ i ih =>
    have h1 := (tlv_le 48 (featB (F i))).1
    have h2 := featB_le (F i)
    simp only [listB, List.length_append]
    omega
theorem codeB_le (ss : Int) (has : Bool) : (codeB ss has).length ≤ 7 := by
  unfold codeB; split
  · exact (tlv_le _ _).1
  · simp
theorem infoB_le (ss : Int) (has : Bool) (F : Nat → Feat) (m : Nat) : (infoB ss has F m).length ≤ 20 * m + 13 ∧ 2 ≤ (infoB ss has F m).length := by
  have h1 := codeB_le ss has
  have h2 := tlv_le 48 (listB F m)
  have h3 := listB_le F m
  unfold infoB
  rw [List.length_append]
  omega
end Go.Proofs.Qxb6605599a
