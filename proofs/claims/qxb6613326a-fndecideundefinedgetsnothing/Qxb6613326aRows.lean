/-
  No cell of these rows narrows 'for every input' (looked for: loops, veiled, ifaces, maps, wideKeys, modest, calm, conditions, laid).
  DERIVED. THE GIVEN ROWS OF THIS SEAT. 2 by the template 'for every input the law returns true; each argument reads behind the call as it read before'; 0 by the template 'total and deterministic' (their statements: Qxb6613326aTotals.lean).
  GIVEN WITH THE SEED: the statements are not yours to turn. If you find one false, say at which input.
  Laid BY PROGRAM, IN A SANDBOX (cutbox-rows.mjs): the forced cells as the released guide's own fill.sh prints them over the translation 978d8202fbc0a1c1… (all of the seat's roots in one cut). By AI agents, Wed Nov 11 2026. No macro, syntax, notation, axiom, sorry.
-/
import Derived.Test.Qxb6613326aChecked
import GoSem.Claim
import GoSem.ClaimJoined
import GoSem.ClaimMapViews
import Derived.JoinedTies
import Derived.KernelRfl
namespace Go.Proofs.Qxb6613326a
/- THE CELL 'sum', in the pinned program and in every row, IS THE sha256 OF THE DUMP (.gsa) THAT Qxb6613326aProg.lean LOADS. Nothing in Lean hashes anything: it is a label: what it is worth is what the hold of that sum in a sandbox is worth. -/
noncomputable def Try.pinned : Pinned := { name := "qxb6613326a", sum := "978d8202fbc0a1c16b3a8b5e4080815e3d6c21a5975be0870f9b526e15fe8dcb", checked := Try.checked }
namespace Rows
def none {H : Type} : Left H := { results := [], args := [] }

/-- 'zzlaws_root_b1.FnDecideOwnTenantAndSuper': WHATEVER THE INPUT: true; the input reads as it did. -/
def fnDecideOwnTenantAndSuperSpec : ChangeSpec := { name := "fnDecideOwnTenantAndSuper", fn := fun _ => fun
  | [d1, d2, d3, d4, d5, d6, d7] => { results := [.lit (.bool true)], args := [d1, d2, d3, d4, d5, d6, d7] }
  | _ => none }
def fnDecideOwnTenantAndSuperRow : OpenClaim := { program := "qxb6613326a", sum := "978d8202fbc0a1c16b3a8b5e4080815e3d6c21a5975be0870f9b526e15fe8dcb", func := "example.com/portcullis/portcullis/zzlaws_root_b1.FnDecideOwnTenantAndSuper", spec := "fnDecideOwnTenantAndSuper", apart := false }
def FnDecideOwnTenantAndSuperSaid : Prop := fnDecideOwnTenantAndSuperRow.holds Try.pinned (OpenSpec.ofChange fnDecideOwnTenantAndSuperSpec)

/-- ITS FALSE NEIGHBOUR: 'it returns false'. Refute it at one input. -/
def fnDecideOwnTenantAndSuperWrong : ChangeSpec := { name := "fnDecideOwnTenantAndSuper", fn := fun _ => fun
  | [d1, d2, d3, d4, d5, d6, d7] => { results := [.lit (.bool false)], args := [d1, d2, d3, d4, d5, d6, d7] }
  | _ => none }
def FnDecideOwnTenantAndSuperWrongFalsely : Prop := fnDecideOwnTenantAndSuperRow.holds Try.pinned (OpenSpec.ofChange fnDecideOwnTenantAndSuperWrong)

/-- 'zzlaws_root_b1.FnDecideUndefinedGetsNothing': WHATEVER THE INPUT: true; the input reads as it did. -/
def fnDecideUndefinedGetsNothingSpec : ChangeSpec := { name := "fnDecideUndefinedGetsNothing", fn := fun _ => fun
  | [d1, d2, d3, d4, d5, d6, d7, d8] => { results := [.lit (.bool true)], args := [d1, d2, d3, d4, d5, d6, d7, d8] }
  | _ => none }
def fnDecideUndefinedGetsNothingRow : OpenClaim := { program := "qxb6613326a", sum := "978d8202fbc0a1c16b3a8b5e4080815e3d6c21a5975be0870f9b526e15fe8dcb", func := "example.com/portcullis/portcullis/zzlaws_root_b1.FnDecideUndefinedGetsNothing", spec := "fnDecideUndefinedGetsNothing", apart := false }
def FnDecideUndefinedGetsNothingSaid : Prop := fnDecideUndefinedGetsNothingRow.holds Try.pinned (OpenSpec.ofChange fnDecideUndefinedGetsNothingSpec)

/-- ITS FALSE NEIGHBOUR: 'it returns false'. Refute it at one input. -/
def fnDecideUndefinedGetsNothingWrong : ChangeSpec := { name := "fnDecideUndefinedGetsNothing", fn := fun _ => fun
  | [d1, d2, d3, d4, d5, d6, d7, d8] => { results := [.lit (.bool false)], args := [d1, d2, d3, d4, d5, d6, d7, d8] }
  | _ => none }
def FnDecideUndefinedGetsNothingWrongFalsely : Prop := fnDecideUndefinedGetsNothingRow.holds Try.pinned (OpenSpec.ofChange fnDecideUndefinedGetsNothingWrong)

end Rows
end Go.Proofs.Qxb6613326a
