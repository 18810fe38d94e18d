/-
  No cell of these rows narrows 'for every input' (looked for: loops, veiled, ifaces, maps, wideKeys, modest, calm, conditions, laid).
  DERIVED. THE GIVEN ROWS OF THIS SEAT. 1 by the template 'for every input the law returns true; each argument reads behind the call as it read before'; 0 by the template 'total and deterministic' (their statements: Qxb6614420aFmtTotals.lean).
  GIVEN WITH THE SEED: the statements are not yours to turn. If you find one false, say at which input.
  Laid BY PROGRAM, IN A SANDBOX (cutbox-rows.mjs): the forced cells as the released guide's own fill.sh prints them over the translation c95cbc148bc78f27… (all of the seat's roots in one cut). By AI agents, Wed Nov 11 2026. No macro, syntax, notation, axiom, sorry.
-/
import Derived.Test.Qxb6614420aFmtChecked
import GoSem.Claim
import GoSem.ClaimJoined
import GoSem.ClaimMapViews
import Derived.JoinedTies
import Derived.KernelRfl
namespace Go.Proofs.Qxb6614420aFmt
/- THE CELL 'sum', in the pinned program and in every row, IS THE sha256 OF THE DUMP (.gsa) THAT Qxb6614420aFmtProg.lean LOADS. Nothing in Lean hashes anything: it is a label: what it is worth is what the hold of that sum in a sandbox is worth. -/
noncomputable def Tryf.pinned : Pinned := { name := "qxb6614420afmt", sum := "c95cbc148bc78f27170f1a7f0570c4a1eb78006e3d0c0f33814e66ede281c179", checked := Tryf.checked }
namespace Rows
def none {H : Type} : Left H := { results := [], args := [] }

/-- 'zzlaws_internal_batch_b1.FnStringListTakesOnlyNullAndLists': WHATEVER THE INPUT: true; the input reads as it did. -/
def fnStringListTakesOnlyNullAndListsSpec : ChangeSpec := { name := "fnStringListTakesOnlyNullAndLists", fn := fun _ => fun
  | [d1, d2] => { results := [.lit (.bool true)], args := [d1, d2] }
  | _ => none }
def fnStringListTakesOnlyNullAndListsRow : OpenClaim := { program := "qxb6614420afmt", sum := "c95cbc148bc78f27170f1a7f0570c4a1eb78006e3d0c0f33814e66ede281c179", func := "example.com/rackwright/rackwright/zzlaws_internal_batch_b1.FnStringListTakesOnlyNullAndLists", spec := "fnStringListTakesOnlyNullAndLists", stops := ["fmt.errorf"], inPlace := ["fmt.errorf"], apart := false }
/-- NO THEOREM (fmt's text is open here; it may be false): for the released tool's asking of the row's closed facts alone. THE STATEMENT IS 'FnStringListTakesOnlyNullAndListsToldSaid' (Qxb6614420aFmtCards.lean). -/
def FnStringListTakesOnlyNullAndListsFormAsk : Prop := fnStringListTakesOnlyNullAndListsRow.holds Tryf.pinned (OpenSpec.ofChange fnStringListTakesOnlyNullAndListsSpec)

/-- ITS FALSE NEIGHBOUR: 'it returns false'. Refute it at one input. -/
def fnStringListTakesOnlyNullAndListsWrong : ChangeSpec := { name := "fnStringListTakesOnlyNullAndLists", fn := fun _ => fun
  | [d1, d2] => { results := [.lit (.bool false)], args := [d1, d2] }
  | _ => none }
def FnStringListTakesOnlyNullAndListsWrongFormAsk : Prop := fnStringListTakesOnlyNullAndListsRow.holds Tryf.pinned (OpenSpec.ofChange fnStringListTakesOnlyNullAndListsWrong)

end Rows
end Go.Proofs.Qxb6614420aFmt
