/-
  No cell of these rows narrows 'for every input' (looked for: loops, veiled, ifaces, maps, wideKeys, modest, calm, conditions, laid).
  DERIVED. THE GIVEN ROWS OF THIS SEAT. 2 by the template 'for every input the law returns true; each argument reads behind the call as it read before'; 0 by the template 'total and deterministic' (their statements: Qxb6613005aTotals.lean).
  GIVEN WITH THE SEED: the statements are not yours to turn. If you find one false, say at which input.
  Laid BY PROGRAM, IN A SANDBOX (cutbox-rows.mjs): the forced cells as the released guide's own fill.sh prints them over the translation f5c8b9a0216666d4… (all of the seat's roots in one cut). By AI agents, Wed Nov 11 2026. No macro, syntax, notation, axiom, sorry.
-/
import Derived.Test.Qxb6613005aChecked
import GoSem.Claim
import GoSem.ClaimJoined
import GoSem.ClaimMapViews
import Derived.JoinedTies
import Derived.KernelRfl
namespace Go.Proofs.Qxb6613005a
/- THE CELL 'sum', in the pinned program and in every row, IS THE sha256 OF THE DUMP (.gsa) THAT Qxb6613005aProg.lean LOADS. Nothing in Lean hashes anything: it is a label: what it is worth is what the hold of that sum in a sandbox is worth. -/
noncomputable def Try.pinned : Pinned := { name := "qxb6613005a", sum := "f5c8b9a0216666d498e6425bc1ecdda2cf54adfb4abd367401ba5caa66ee647e", checked := Try.checked }
namespace Rows
def none {H : Type} : Left H := { results := [], args := [] }

/-- 'zzlaws_internal_record_b1.FnWordOfBytesAndBitwise': WHATEVER THE INPUT: true; the input reads as it did. -/
def fnWordOfBytesAndBitwiseSpec : ChangeSpec := { name := "fnWordOfBytesAndBitwise", fn := fun _ => fun
  | [d1, d2] => { results := [.lit (.bool true)], args := [d1, d2] }
  | _ => none }
def fnWordOfBytesAndBitwiseRow : OpenClaim := { program := "qxb6613005a", sum := "f5c8b9a0216666d498e6425bc1ecdda2cf54adfb4abd367401ba5caa66ee647e", func := "example.com/blockpass/blockpass/zzlaws_internal_record_b1.FnWordOfBytesAndBitwise", spec := "fnWordOfBytesAndBitwise", apart := false }
def FnWordOfBytesAndBitwiseSaid : Prop := fnWordOfBytesAndBitwiseRow.holds Try.pinned (OpenSpec.ofChange fnWordOfBytesAndBitwiseSpec)

/-- ITS FALSE NEIGHBOUR: 'it returns false'. Refute it at one input. -/
def fnWordOfBytesAndBitwiseWrong : ChangeSpec := { name := "fnWordOfBytesAndBitwise", fn := fun _ => fun
  | [d1, d2] => { results := [.lit (.bool false)], args := [d1, d2] }
  | _ => none }
def FnWordOfBytesAndBitwiseWrongFalsely : Prop := fnWordOfBytesAndBitwiseRow.holds Try.pinned (OpenSpec.ofChange fnWordOfBytesAndBitwiseWrong)

/-- 'zzlaws_internal_record_b1.FnWordOfOrderAndDifference': WHATEVER THE INPUT: true; the input reads as it did. -/
def fnWordOfOrderAndDifferenceSpec : ChangeSpec := { name := "fnWordOfOrderAndDifference", fn := fun _ => fun
  | [d1, d2] => { results := [.lit (.bool true)], args := [d1, d2] }
  | _ => none }
def fnWordOfOrderAndDifferenceRow : OpenClaim := { program := "qxb6613005a", sum := "f5c8b9a0216666d498e6425bc1ecdda2cf54adfb4abd367401ba5caa66ee647e", func := "example.com/blockpass/blockpass/zzlaws_internal_record_b1.FnWordOfOrderAndDifference", spec := "fnWordOfOrderAndDifference", apart := false }
def FnWordOfOrderAndDifferenceSaid : Prop := fnWordOfOrderAndDifferenceRow.holds Try.pinned (OpenSpec.ofChange fnWordOfOrderAndDifferenceSpec)

/-- ITS FALSE NEIGHBOUR: 'it returns false'. Refute it at one input. -/
def fnWordOfOrderAndDifferenceWrong : ChangeSpec := { name := "fnWordOfOrderAndDifference", fn := fun _ => fun
  | [d1, d2] => { results := [.lit (.bool false)], args := [d1, d2] }
  | _ => none }
def FnWordOfOrderAndDifferenceWrongFalsely : Prop := fnWordOfOrderAndDifferenceRow.holds Try.pinned (OpenSpec.ofChange fnWordOfOrderAndDifferenceWrong)

end Rows
end Go.Proofs.Qxb6613005a
