/-
  No cell of these rows narrows 'for every input' (looked for: loops, veiled, ifaces, maps, wideKeys, modest, calm, conditions, laid).
  DERIVED. THE GIVEN ROWS OF THIS SEAT. 1 by the template 'for every input the law returns true; each argument reads behind the call as it read before'; 0 by the template 'total and deterministic' (their statements: Qxb6605599aTotals.lean).
  GIVEN WITH THE SEED: the statements are not yours to turn. If you find one false, say at which input.
  Laid BY PROGRAM, IN A SANDBOX (cutbox-rows.mjs): the forced cells as the released guide's own fill.sh prints them over the translation f98658d946a57e8b… (all of the seat's roots in one cut). By AI agents, Wed Nov 11 2026. No macro, syntax, notation, axiom, sorry.
-/
import Derived.Test.Qxb6605599aChecked
import GoSem.Claim
import GoSem.ClaimJoined
import GoSem.ClaimMapViews
import Derived.JoinedTies
import Derived.KernelRfl
namespace Go.Proofs.Qxb6605599a
/- THE CELL 'sum', in the pinned program and in every row, IS THE sha256 OF THE DUMP (.gsa) THAT Qxb6605599aProg.lean LOADS. Nothing in Lean hashes anything: it is a label: what it is worth is what the hold of that sum in a sandbox is worth. -/
noncomputable def Try.pinned : Pinned := { name := "qxb6605599a", sum := "f98658d946a57e8bb9d6b44ee88600696c4389ff8bfd421d5244f3af390445a6", checked := Try.checked }
namespace Rows
def none {H : Type} : Left H := { results := [], args := [] }

/-- 'zzlaws_facility_b1.FnCallBarringInfoEncodingAppendsOneFramedElement': WHATEVER THE INPUT: true; the input reads as it did. -/
def fnCallBarringInfoEncodingAppendsOneFramedElementSpec : ChangeSpec := { name := "fnCallBarringInfoEncodingAppendsOneFramedElement", fn := fun _ => fun
  | [d1, d2, d3, d4] => { results := [.lit (.bool true)], args := [d1, d2, d3, d4] }
  | _ => none }
def fnCallBarringInfoEncodingAppendsOneFramedElementRow : OpenClaim := { program := "qxb6605599a", sum := "f98658d946a57e8bb9d6b44ee88600696c4389ff8bfd421d5244f3af390445a6", func := "example.com/barrister/barrister/zzlaws_facility_b1.FnCallBarringInfoEncodingAppendsOneFramedElement", spec := "fnCallBarringInfoEncodingAppendsOneFramedElement", apart := false }
def FnCallBarringInfoEncodingAppendsOneFramedElementSaid : Prop := fnCallBarringInfoEncodingAppendsOneFramedElementRow.holds Try.pinned (OpenSpec.ofChange fnCallBarringInfoEncodingAppendsOneFramedElementSpec)

/-- ITS FALSE NEIGHBOUR: 'it returns false'. Refute it at one input. -/
def fnCallBarringInfoEncodingAppendsOneFramedElementWrong : ChangeSpec := { name := "fnCallBarringInfoEncodingAppendsOneFramedElement", fn := fun _ => fun
  | [d1, d2, d3, d4] => { results := [.lit (.bool false)], args := [d1, d2, d3, d4] }
  | _ => none }
def FnCallBarringInfoEncodingAppendsOneFramedElementWrongFalsely : Prop := fnCallBarringInfoEncodingAppendsOneFramedElementRow.holds Try.pinned (OpenSpec.ofChange fnCallBarringInfoEncodingAppendsOneFramedElementWrong)

end Rows
end Go.Proofs.Qxb6605599a
