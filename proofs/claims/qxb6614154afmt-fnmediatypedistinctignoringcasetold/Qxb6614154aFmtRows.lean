/-
  No cell of these rows narrows 'for every input' (looked for: loops, veiled, ifaces, maps, wideKeys, modest, calm, conditions, laid).
  DERIVED. THE GIVEN ROWS OF THIS SEAT. 1 by the template 'for every input the law returns true; each argument reads behind the call as it read before'; 0 by the template 'total and deterministic' (their statements: Qxb6614154aFmtTotals.lean).
  GIVEN WITH THE SEED: the statements are not yours to turn. If you find one false, say at which input.
  Laid BY PROGRAM, IN A SANDBOX (cutbox-rows.mjs): the forced cells as the released guide's own fill.sh prints them over the translation d497570910ed49a4… (all of the seat's roots in one cut). By AI agents, Wed Nov 11 2026. No macro, syntax, notation, axiom, sorry.
-/
import Derived.Test.Qxb6614154aFmtChecked
import GoSem.Claim
import GoSem.ClaimJoined
import GoSem.ClaimMapViews
import Derived.JoinedTies
import Derived.KernelRfl
namespace Go.Proofs.Qxb6614154aFmt
/- THE CELL 'sum', in the pinned program and in every row, IS THE sha256 OF THE DUMP (.gsa) THAT Qxb6614154aFmtProg.lean LOADS. Nothing in Lean hashes anything: it is a label: what it is worth is what the hold of that sum in a sandbox is worth. -/
noncomputable def Tryf.pinned : Pinned := { name := "qxb6614154afmt", sum := "d497570910ed49a46865745f6e9cd76e88d3952b618183c5d96d6d7529299c78", checked := Tryf.checked }
namespace Rows
def none {H : Type} : Left H := { results := [], args := [] }

/-- 'zzlaws_root_b1.FnMediaTypeDistinctIgnoringCase': WHATEVER THE INPUT: true; the input reads as it did. -/
def fnMediaTypeDistinctIgnoringCaseSpec : ChangeSpec := { name := "fnMediaTypeDistinctIgnoringCase", fn := fun _ => fun
  | [d1, d2] => { results := [.lit (.bool true)], args := [d1, d2] }
  | _ => none }
def fnMediaTypeDistinctIgnoringCaseRow : OpenClaim := { program := "qxb6614154afmt", sum := "d497570910ed49a46865745f6e9cd76e88d3952b618183c5d96d6d7529299c78", func := "example.com/gobstream/gobstream/zzlaws_root_b1.FnMediaTypeDistinctIgnoringCase", spec := "fnMediaTypeDistinctIgnoringCase", stops := ["fmt.Sprintf"], inPlace := ["fmt.Sprintf"], apart := false }
/-- NO THEOREM (fmt's text is open here; it may be false): for the released tool's asking of the row's closed facts alone. THE STATEMENT IS 'FnMediaTypeDistinctIgnoringCaseToldSaid' (Qxb6614154aFmtCards.lean). -/
def FnMediaTypeDistinctIgnoringCaseFormAsk : Prop := fnMediaTypeDistinctIgnoringCaseRow.holds Tryf.pinned (OpenSpec.ofChange fnMediaTypeDistinctIgnoringCaseSpec)

/-- ITS FALSE NEIGHBOUR: 'it returns false'. Refute it at one input. -/
def fnMediaTypeDistinctIgnoringCaseWrong : ChangeSpec := { name := "fnMediaTypeDistinctIgnoringCase", fn := fun _ => fun
  | [d1, d2] => { results := [.lit (.bool false)], args := [d1, d2] }
  | _ => none }
def FnMediaTypeDistinctIgnoringCaseWrongFormAsk : Prop := fnMediaTypeDistinctIgnoringCaseRow.holds Tryf.pinned (OpenSpec.ofChange fnMediaTypeDistinctIgnoringCaseWrong)

end Rows
end Go.Proofs.Qxb6614154aFmt
