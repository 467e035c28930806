/-
  DERIVED. GIVEN WITH THE SEED: THE CARDS: each row of Qxb6614154aFmtRows.lean that lists a variable, with what it lists TIED to the program's text (the seventh form; the later family's looks); each row that meets fmt, with fmt's text TOLD by the authors' own Lean function (tested against real Go, not proved from fmt's source: count such statements apart). THE CARD IS WHAT COUNTS. Prove the row's statement (the work); the ties are given (Qxb6614154aFmtTie.lean); close each card by the builder's one call (the guide's Derived/Test/ToyasCard.lean, 'card_holds'). Laid BY PROGRAM, IN A SANDBOX (cutbox-door.mjs). By AI agents, Wed Nov 11 2026. No macro, syntax, notation, axiom, sorry.
-/
import Derived.Test.Qxb6614154aFmtRows
import GoSem.ClaimSeven
namespace Go.Proofs.Qxb6614154aFmt
namespace Rows

/-- THE TOLD CARD OF 'zzlaws_root_b1.FnMediaTypeDistinctIgnoringCase'. -/
def fnMediaTypeDistinctIgnoringCaseCard : Claim7 := { stood := { row := fnMediaTypeDistinctIgnoringCaseRow, standIns := [], harness := (true, "782056f16fe9e9ceb3a1871e8101266d3f7f8b269af70c13882d2e953f8b3519"), looks := false }, told := true, goes := false }
def FnMediaTypeDistinctIgnoringCaseToldSaid : Prop := Claim7.holds Tryf.pinned (.plain (OpenSpec.ofChange fnMediaTypeDistinctIgnoringCaseSpec)) fnMediaTypeDistinctIgnoringCaseCard
/-- ITS FALSE NEIGHBOUR. Refute it at one input. -/
def FnMediaTypeDistinctIgnoringCaseToldWrongFalsely : Prop := Claim7.holds Tryf.pinned (.plain (OpenSpec.ofChange fnMediaTypeDistinctIgnoringCaseWrong)) fnMediaTypeDistinctIgnoringCaseCard
end Rows
end Go.Proofs.Qxb6614154aFmt
