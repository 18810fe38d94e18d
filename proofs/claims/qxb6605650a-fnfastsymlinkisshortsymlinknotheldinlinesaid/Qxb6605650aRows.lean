/-
  No cell of these rows narrows 'for every input' (looked for: loops, veiled, ifaces, maps, wideKeys, modest, calm, conditions, laid).
  DERIVED. THE GIVEN ROWS OF THIS SEAT. 1 by the template 'for every input the law returns true; each argument reads behind the call as it read before'; 0 by the template 'total and deterministic' (their statements: Qxb6605650aTotals.lean).
  GIVEN WITH THE SEED: the statements are not yours to turn. If you find one false, say at which input.
  Laid BY PROGRAM, IN A SANDBOX (cutbox-rows.mjs): the forced cells as the released guide's own fill.sh prints them over the translation 724c7611d280e30e… (all of the seat's roots in one cut). By AI agents, Wed Nov 11 2026. No macro, syntax, notation, axiom, sorry.
-/
import Derived.Test.Qxb6605650aChecked
import GoSem.Claim
import GoSem.ClaimJoined
import GoSem.ClaimMapViews
import Derived.JoinedTies
import Derived.KernelRfl
namespace Go.Proofs.Qxb6605650a
/- THE CELL 'sum', in the pinned program and in every row, IS THE sha256 OF THE DUMP (.gsa) THAT Qxb6605650aProg.lean LOADS. Nothing in Lean hashes anything: it is a label: what it is worth is what the hold of that sum in a sandbox is worth. -/
noncomputable def Try.pinned : Pinned := { name := "qxb6605650a", sum := "724c7611d280e30e0b2c49362fc6cce198b1fbb71fe13436b908514e57f331e9", checked := Try.checked }
namespace Rows
def none {H : Type} : Left H := { results := [], args := [] }

/-- 'zzlaws_internal_extfs_b1.FnFastSymlinkIsShortSymlinkNotHeldInline': WHATEVER THE INPUT: true; the input reads as it did. -/
def fnFastSymlinkIsShortSymlinkNotHeldInlineSpec : ChangeSpec := { name := "fnFastSymlinkIsShortSymlinkNotHeldInline", fn := fun _ => fun
  | [d1, d2, d3, d4, d5, d6, d7, d8, d9, d10] => { results := [.lit (.bool true)], args := [d1, d2, d3, d4, d5, d6, d7, d8, d9, d10] }
  | _ => none }
def fnFastSymlinkIsShortSymlinkNotHeldInlineRow : OpenClaim := { program := "qxb6605650a", sum := "724c7611d280e30e0b2c49362fc6cce198b1fbb71fe13436b908514e57f331e9", func := "example.com/wayfare/wayfare/zzlaws_internal_extfs_b1.FnFastSymlinkIsShortSymlinkNotHeldInline", spec := "fnFastSymlinkIsShortSymlinkNotHeldInline", apart := false }
def FnFastSymlinkIsShortSymlinkNotHeldInlineSaid : Prop := fnFastSymlinkIsShortSymlinkNotHeldInlineRow.holds Try.pinned (OpenSpec.ofChange fnFastSymlinkIsShortSymlinkNotHeldInlineSpec)

/-- ITS FALSE NEIGHBOUR: 'it returns false'. Refute it at one input. -/
def fnFastSymlinkIsShortSymlinkNotHeldInlineWrong : ChangeSpec := { name := "fnFastSymlinkIsShortSymlinkNotHeldInline", fn := fun _ => fun
  | [d1, d2, d3, d4, d5, d6, d7, d8, d9, d10] => { results := [.lit (.bool false)], args := [d1, d2, d3, d4, d5, d6, d7, d8, d9, d10] }
  | _ => none }
def FnFastSymlinkIsShortSymlinkNotHeldInlineWrongFalsely : Prop := fnFastSymlinkIsShortSymlinkNotHeldInlineRow.holds Try.pinned (OpenSpec.ofChange fnFastSymlinkIsShortSymlinkNotHeldInlineWrong)

end Rows
end Go.Proofs.Qxb6605650a
