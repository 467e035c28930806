/-
  No cell of these rows narrows 'for every input' (looked for: loops, veiled, ifaces, maps, wideKeys, modest, calm, conditions, laid).
  DERIVED. THE GIVEN ROWS OF THIS SEAT. 4 by the template 'for every input the law returns true; each argument reads behind the call as it read before'; 0 by the template 'total and deterministic' (their statements: Qxb6614154aTotals.lean).
  GIVEN WITH THE SEED: the statements are not yours to turn. If you find one false, say at which input.
  Laid BY PROGRAM, IN A SANDBOX (cutbox-rows.mjs): the forced cells as the released guide's own fill.sh prints them over the translation daec6c09e80fccf7… (all of the seat's roots in one cut). By AI agents, Wed Nov 11 2026. No macro, syntax, notation, axiom, sorry.
-/
import Derived.Test.Qxb6614154aChecked
import GoSem.Claim
import GoSem.ClaimJoined
import GoSem.ClaimMapViews
import Derived.JoinedTies
import Derived.KernelRfl
namespace Go.Proofs.Qxb6614154a
/- THE CELL 'sum', in the pinned program and in every row, IS THE sha256 OF THE DUMP (.gsa) THAT Qxb6614154aProg.lean LOADS. Nothing in Lean hashes anything: it is a label: what it is worth is what the hold of that sum in a sandbox is worth. -/
noncomputable def Try.pinned : Pinned := { name := "qxb6614154a", sum := "daec6c09e80fccf709c299c81f974e2860cac3808014c3e67fc4704bdf0e8a55", checked := Try.checked }
namespace Rows
def none {H : Type} : Left H := { results := [], args := [] }

/-- 'zzlaws_root_b1.FnSpanBytesCutAtAnyBit': WHATEVER THE INPUT: true; the input reads as it did. -/
def fnSpanBytesCutAtAnyBitSpec : ChangeSpec := { name := "fnSpanBytesCutAtAnyBit", fn := fun _ => fun
  | [d1, d2, d3, d4] => { results := [.lit (.bool true)], args := [d1, d2, d3, d4] }
  | _ => none }
def fnSpanBytesCutAtAnyBitRow : OpenClaim := { program := "qxb6614154a", sum := "daec6c09e80fccf709c299c81f974e2860cac3808014c3e67fc4704bdf0e8a55", func := "example.com/gobstream/gobstream/zzlaws_root_b1.FnSpanBytesCutAtAnyBit", spec := "fnSpanBytesCutAtAnyBit", apart := false }
def FnSpanBytesCutAtAnyBitSaid : Prop := fnSpanBytesCutAtAnyBitRow.holds Try.pinned (OpenSpec.ofChange fnSpanBytesCutAtAnyBitSpec)

/-- ITS FALSE NEIGHBOUR: 'it returns false'. Refute it at one input. -/
def fnSpanBytesCutAtAnyBitWrong : ChangeSpec := { name := "fnSpanBytesCutAtAnyBit", fn := fun _ => fun
  | [d1, d2, d3, d4] => { results := [.lit (.bool false)], args := [d1, d2, d3, d4] }
  | _ => none }
def FnSpanBytesCutAtAnyBitWrongFalsely : Prop := fnSpanBytesCutAtAnyBitRow.holds Try.pinned (OpenSpec.ofChange fnSpanBytesCutAtAnyBitWrong)

/-- 'zzlaws_root_b1.FnSpanBytesIgnoresBytesAround': WHATEVER THE INPUT: true; the input reads as it did. -/
def fnSpanBytesIgnoresBytesAroundSpec : ChangeSpec := { name := "fnSpanBytesIgnoresBytesAround", fn := fun _ => fun
  | [d1, d2, d3, d4, d5] => { results := [.lit (.bool true)], args := [d1, d2, d3, d4, d5] }
  | _ => none }
def fnSpanBytesIgnoresBytesAroundRow : OpenClaim := { program := "qxb6614154a", sum := "daec6c09e80fccf709c299c81f974e2860cac3808014c3e67fc4704bdf0e8a55", func := "example.com/gobstream/gobstream/zzlaws_root_b1.FnSpanBytesIgnoresBytesAround", spec := "fnSpanBytesIgnoresBytesAround", apart := false }
def FnSpanBytesIgnoresBytesAroundSaid : Prop := fnSpanBytesIgnoresBytesAroundRow.holds Try.pinned (OpenSpec.ofChange fnSpanBytesIgnoresBytesAroundSpec)

/-- ITS FALSE NEIGHBOUR: 'it returns false'. Refute it at one input. -/
def fnSpanBytesIgnoresBytesAroundWrong : ChangeSpec := { name := "fnSpanBytesIgnoresBytesAround", fn := fun _ => fun
  | [d1, d2, d3, d4, d5] => { results := [.lit (.bool false)], args := [d1, d2, d3, d4, d5] }
  | _ => none }
def FnSpanBytesIgnoresBytesAroundWrongFalsely : Prop := fnSpanBytesIgnoresBytesAroundRow.holds Try.pinned (OpenSpec.ofChange fnSpanBytesIgnoresBytesAroundWrong)

/-- 'zzlaws_root_b1.FnPayloadsCutWholeUnitsGreedily': WHATEVER THE INPUT: true; the input reads as it did. -/
def fnPayloadsCutWholeUnitsGreedilySpec : ChangeSpec := { name := "fnPayloadsCutWholeUnitsGreedily", fn := fun _ => fun
  | [d1, d2, d3, d4, d5, d6, d7, d8, d9, d10, d11, d12] => { results := [.lit (.bool true)], args := [d1, d2, d3, d4, d5, d6, d7, d8, d9, d10, d11, d12] }
  | _ => none }
def fnPayloadsCutWholeUnitsGreedilyRow : OpenClaim := { program := "qxb6614154a", sum := "daec6c09e80fccf709c299c81f974e2860cac3808014c3e67fc4704bdf0e8a55", func := "example.com/gobstream/gobstream/zzlaws_root_b1.FnPayloadsCutWholeUnitsGreedily", spec := "fnPayloadsCutWholeUnitsGreedily", unfollowed := true, recurses := true, named := ["encoding/binary.BigEndian"], apart := false }
def FnPayloadsCutWholeUnitsGreedilySaid : Prop := fnPayloadsCutWholeUnitsGreedilyRow.holds Try.pinned (OpenSpec.ofChange fnPayloadsCutWholeUnitsGreedilySpec)

/-- ITS FALSE NEIGHBOUR: 'it returns false'. Refute it at one input. -/
def fnPayloadsCutWholeUnitsGreedilyWrong : ChangeSpec := { name := "fnPayloadsCutWholeUnitsGreedily", fn := fun _ => fun
  | [d1, d2, d3, d4, d5, d6, d7, d8, d9, d10, d11, d12] => { results := [.lit (.bool false)], args := [d1, d2, d3, d4, d5, d6, d7, d8, d9, d10, d11, d12] }
  | _ => none }
def FnPayloadsCutWholeUnitsGreedilyWrongFalsely : Prop := fnPayloadsCutWholeUnitsGreedilyRow.holds Try.pinned (OpenSpec.ofChange fnPayloadsCutWholeUnitsGreedilyWrong)

/-- 'zzlaws_root_b1.FnPayloadsSameIntoAUsedBuffer': WHATEVER THE INPUT: true; the input reads as it did. -/
def fnPayloadsSameIntoAUsedBufferSpec : ChangeSpec := { name := "fnPayloadsSameIntoAUsedBuffer", fn := fun _ => fun
  | [d1, d2, d3, d4, d5, d6, d7, d8, d9, d10, d11, d12] => { results := [.lit (.bool true)], args := [d1, d2, d3, d4, d5, d6, d7, d8, d9, d10, d11, d12] }
  | _ => none }
def fnPayloadsSameIntoAUsedBufferRow : OpenClaim := { program := "qxb6614154a", sum := "daec6c09e80fccf709c299c81f974e2860cac3808014c3e67fc4704bdf0e8a55", func := "example.com/gobstream/gobstream/zzlaws_root_b1.FnPayloadsSameIntoAUsedBuffer", spec := "fnPayloadsSameIntoAUsedBuffer", unfollowed := true, recurses := true, named := ["encoding/binary.BigEndian"], apart := false }
def FnPayloadsSameIntoAUsedBufferSaid : Prop := fnPayloadsSameIntoAUsedBufferRow.holds Try.pinned (OpenSpec.ofChange fnPayloadsSameIntoAUsedBufferSpec)

/-- ITS FALSE NEIGHBOUR: 'it returns false'. Refute it at one input. -/
def fnPayloadsSameIntoAUsedBufferWrong : ChangeSpec := { name := "fnPayloadsSameIntoAUsedBuffer", fn := fun _ => fun
  | [d1, d2, d3, d4, d5, d6, d7, d8, d9, d10, d11, d12] => { results := [.lit (.bool false)], args := [d1, d2, d3, d4, d5, d6, d7, d8, d9, d10, d11, d12] }
  | _ => none }
def FnPayloadsSameIntoAUsedBufferWrongFalsely : Prop := fnPayloadsSameIntoAUsedBufferRow.holds Try.pinned (OpenSpec.ofChange fnPayloadsSameIntoAUsedBufferWrong)

end Rows
end Go.Proofs.Qxb6614154a
