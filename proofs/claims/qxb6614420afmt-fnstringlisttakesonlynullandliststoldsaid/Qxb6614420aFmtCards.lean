/-
  DERIVED. GIVEN WITH THE SEED: THE CARDS: each row of Qxb6614420aFmtRows.lean that lists a variable, with what it lists TIED to the program's text (the seventh form; the later family's looks); each row that meets fmt, with fmt's text TOLD by the authors' own Lean function (tested against real Go, not proved from fmt's source: count such statements apart). THE CARD IS WHAT COUNTS. Prove the row's statement (the work); the ties are given (Qxb6614420aFmtTie.lean); close each card by the builder's one call (the guide's Derived/Test/ToyasCard.lean, 'card_holds'). Laid BY PROGRAM, IN A SANDBOX (cutbox-door.mjs). By AI agents, Wed Nov 11 2026. No macro, syntax, notation, axiom, sorry.
-/
import Derived.Test.Qxb6614420aFmtRows
import GoSem.ClaimSeven
namespace Go.Proofs.Qxb6614420aFmt
namespace Rows

/-- THE TOLD CARD OF 'zzlaws_internal_batch_b1.FnStringListTakesOnlyNullAndLists'. -/
def fnStringListTakesOnlyNullAndListsCard : Claim7 := { stood := { row := fnStringListTakesOnlyNullAndListsRow, standIns := [], harness := (true, "621f7dbefc9586d6df0c8d4f5a70ae9206dfe76236e9e8707fe7c9f5b015e092"), looks := true }, told := true, goes := false }
def FnStringListTakesOnlyNullAndListsToldSaid : Prop := Claim7.holds Tryf.pinned (.plain (OpenSpec.ofChange fnStringListTakesOnlyNullAndListsSpec)) fnStringListTakesOnlyNullAndListsCard
/-- ITS FALSE NEIGHBOUR. Refute it at one input. -/
def FnStringListTakesOnlyNullAndListsToldWrongFalsely : Prop := Claim7.holds Tryf.pinned (.plain (OpenSpec.ofChange fnStringListTakesOnlyNullAndListsWrong)) fnStringListTakesOnlyNullAndListsCard
end Rows
end Go.Proofs.Qxb6614420aFmt
