/-
  No cell of these rows narrows 'for every input' (looked for: loops, veiled, ifaces, maps, wideKeys, modest, calm, conditions, laid).
  DERIVED. THE GIVEN ROWS OF THIS SEAT. 2 by the template 'for every input the law returns true; each argument reads behind the call as it read before'; 0 by the template 'total and deterministic' (their statements: Qxb6605593aTotals.lean).
  GIVEN WITH THE SEED: the statements are not yours to turn. If you find one false, say at which input.
  Laid BY PROGRAM, IN A SANDBOX (cutbox-rows.mjs): the forced cells as the released guide's own fill.sh prints them over the translation 86329206328d6b99… (all of the seat's roots in one cut). By AI agents, Wed Nov 11 2026. No macro, syntax, notation, axiom, sorry.
-/
import Derived.Test.Qxb6605593aChecked
import GoSem.Claim
import GoSem.ClaimJoined
import GoSem.ClaimMapViews
import Derived.JoinedTies
import Derived.KernelRfl
namespace Go.Proofs.Qxb6605593a
/- THE CELL 'sum', in the pinned program and in every row, IS THE sha256 OF THE DUMP (.gsa) THAT Qxb6605593aProg.lean LOADS. Nothing in Lean hashes anything: it is a label: what it is worth is what the hold of that sum in a sandbox is worth. -/
noncomputable def Try.pinned : Pinned := { name := "qxb6605593a", sum := "86329206328d6b99a0c0bfab7619ee70bf3ce523a28d87517aaa9c796d4e4f47", checked := Try.checked }
namespace Rows
def none {H : Type} : Left H := { results := [], args := [] }

/-- 'zzlaws_pkg_csvfile_b1.FnBatchRowPicksItsFields': WHATEVER THE INPUT: true; the input reads as it did. -/
def fnBatchRowPicksItsFieldsSpec : ChangeSpec := { name := "fnBatchRowPicksItsFields", fn := fun _ => fun
  | [d1, d2, d3, d4] => { results := [.lit (.bool true)], args := [d1, d2, d3, d4] }
  | _ => none }
def fnBatchRowPicksItsFieldsRow : OpenClaim := { program := "qxb6605593a", sum := "86329206328d6b99a0c0bfab7619ee70bf3ce523a28d87517aaa9c796d4e4f47", func := "example.com/bidsift/bidsift/zzlaws_pkg_csvfile_b1.FnBatchRowPicksItsFields", spec := "fnBatchRowPicksItsFields", apart := false }
def FnBatchRowPicksItsFieldsSaid : Prop := fnBatchRowPicksItsFieldsRow.holds Try.pinned (OpenSpec.ofChange fnBatchRowPicksItsFieldsSpec)

/-- ITS FALSE NEIGHBOUR: 'it returns false'. Refute it at one input. -/
def fnBatchRowPicksItsFieldsWrong : ChangeSpec := { name := "fnBatchRowPicksItsFields", fn := fun _ => fun
  | [d1, d2, d3, d4] => { results := [.lit (.bool false)], args := [d1, d2, d3, d4] }
  | _ => none }
def FnBatchRowPicksItsFieldsWrongFalsely : Prop := fnBatchRowPicksItsFieldsRow.holds Try.pinned (OpenSpec.ofChange fnBatchRowPicksItsFieldsWrong)

/-- 'zzlaws_pkg_csvfile_b1.FnBatchRowsConcatenateToFields': WHATEVER THE INPUT: true; the input reads as it did. -/
def fnBatchRowsConcatenateToFieldsSpec : ChangeSpec := { name := "fnBatchRowsConcatenateToFields", fn := fun _ => fun
  | [d1, d2, d3] => { results := [.lit (.bool true)], args := [d1, d2, d3] }
  | _ => none }
def fnBatchRowsConcatenateToFieldsRow : OpenClaim := { program := "qxb6605593a", sum := "86329206328d6b99a0c0bfab7619ee70bf3ce523a28d87517aaa9c796d4e4f47", func := "example.com/bidsift/bidsift/zzlaws_pkg_csvfile_b1.FnBatchRowsConcatenateToFields", spec := "fnBatchRowsConcatenateToFields", apart := false }
def FnBatchRowsConcatenateToFieldsSaid : Prop := fnBatchRowsConcatenateToFieldsRow.holds Try.pinned (OpenSpec.ofChange fnBatchRowsConcatenateToFieldsSpec)

/-- ITS FALSE NEIGHBOUR: 'it returns false'. Refute it at one input. -/
def fnBatchRowsConcatenateToFieldsWrong : ChangeSpec := { name := "fnBatchRowsConcatenateToFields", fn := fun _ => fun
  | [d1, d2, d3] => { results := [.lit (.bool false)], args := [d1, d2, d3] }
  | _ => none }
def FnBatchRowsConcatenateToFieldsWrongFalsely : Prop := fnBatchRowsConcatenateToFieldsRow.holds Try.pinned (OpenSpec.ofChange fnBatchRowsConcatenateToFieldsWrong)

end Rows
end Go.Proofs.Qxb6605593a
