/-
  NARROWER THAN 'FOR EVERY INPUT', by the rows' own cells (each row's printed sentence says how): FnNextLineKeyWords: laid · FnNextFixedKeyWords: laid · FnUnterminateJoinsLineToNext: laid · FnSpanWalkRebuildsLine: laid · FnSpanAtAnyIndexIsLineInPlace: laid.
  DERIVED. THE GIVEN ROWS OF THIS SEAT. 5 by the template 'for every input the law returns true; each argument reads behind the call as it read before'; 0 by the template 'total and deterministic' (their statements: Qxb6613005aDoorTotals.lean).
  GIVEN WITH THE SEED: the statements are not yours to turn. If you find one false, say at which input.
  Laid BY PROGRAM, IN A SANDBOX (cutbox-rows.mjs): the forced cells as the released guide's own fill.sh prints them over the translation 4b9282945dcb1106… (all of the seat's roots in one cut). By AI agents, Wed Nov 11 2026. No macro, syntax, notation, axiom, sorry.
-/
import Derived.Test.Qxb6613005aDoorChecked
import GoSem.Claim
import GoSem.ClaimJoined
import GoSem.ClaimMapViews
import Derived.JoinedTies
import Derived.KernelRfl
namespace Go.Proofs.Qxb6613005aDoor
/- THE CELL 'sum', in the pinned program and in every row, IS THE sha256 OF THE DUMP (.gsa) THAT Qxb6613005aDoorProg.lean LOADS. Nothing in Lean hashes anything: it is a label: what it is worth is what the hold of that sum in a sandbox is worth. -/
noncomputable def Tryd.pinned : Pinned := { name := "qxb6613005adoor", sum := "4b9282945dcb11061bc0cab02437b9569cae0a45e1604c01965833b4577cf73c", checked := Tryd.checked }
namespace Rows
def none {H : Type} : Left H := { results := [], args := [] }

/- WHAT THE LISTED PACKAGE-LEVEL VARIABLES READ AS WHEN THE CALL BEGINS. Each datum BY PROGRAM (the guide's laid-datum.mjs) off the statement by which the dump's own 'gosem.cut.vars' lays the variable. In a bare row this is a premise. The card (Qxb6613005aDoorCards.lean) ties it to the program's text. -/
def laid_math_bits_deBruijn64tab {H : Type} : DataW H := .agg [.lit (.int .u8 0), .lit (.int .u8 1), .lit (.int .u8 56), .lit (.int .u8 2), .lit (.int .u8 57), .lit (.int .u8 49), .lit (.int .u8 28), .lit (.int .u8 3), .lit (.int .u8 61), .lit (.int .u8 58), .lit (.int .u8 42), .lit (.int .u8 50), .lit (.int .u8 38), .lit (.int .u8 29), .lit (.int .u8 17), .lit (.int .u8 4), .lit (.int .u8 62), .lit (.int .u8 47), .lit (.int .u8 59), .lit (.int .u8 36), .lit (.int .u8 45), .lit (.int .u8 43), .lit (.int .u8 51), .lit (.int .u8 22), .lit (.int .u8 53), .lit (.int .u8 39), .lit (.int .u8 33), .lit (.int .u8 30), .lit (.int .u8 24), .lit (.int .u8 18), .lit (.int .u8 12), .lit (.int .u8 5), .lit (.int .u8 63), .lit (.int .u8 55), .lit (.int .u8 48), .lit (.int .u8 27), .lit (.int .u8 60), .lit (.int .u8 41), .lit (.int .u8 37), .lit (.int .u8 16), .lit (.int .u8 46), .lit (.int .u8 35), .lit (.int .u8 44), .lit (.int .u8 21), .lit (.int .u8 52), .lit (.int .u8 32), .lit (.int .u8 23), .lit (.int .u8 11), .lit (.int .u8 54), .lit (.int .u8 26), .lit (.int .u8 40), .lit (.int .u8 15), .lit (.int .u8 34), .lit (.int .u8 20), .lit (.int .u8 31), .lit (.int .u8 10), .lit (.int .u8 25), .lit (.int .u8 14), .lit (.int .u8 19), .lit (.int .u8 9), .lit (.int .u8 13), .lit (.int .u8 8), .lit (.int .u8 7), .lit (.int .u8 6)]
def laid_io_EOF {H : Type} : DataW H := .iface "*errors.errorString" (.ptr (.agg [.lit (.string [69, 79, 70])]))

/-- 'zzlaws_internal_record_b1.FnNextLineKeyWords': WHATEVER THE INPUT: true; the input reads as it did. -/
def fnNextLineKeyWordsSpec : ChangeSpec := { name := "fnNextLineKeyWords", fn := fun _ => fun
  | [d1, d2, d3, d4] => { results := [.lit (.bool true)], args := [d1, d2, d3, d4] }
  | _ => none }
def fnNextLineKeyWordsRow : OpenClaim := { program := "qxb6613005adoor", sum := "4b9282945dcb11061bc0cab02437b9569cae0a45e1604c01965833b4577cf73c", func := "example.com/blockpass/blockpass/zzlaws_internal_record_b1.FnNextLineKeyWords", spec := "fnNextLineKeyWords", named := ["encoding/binary.LittleEndian", "math/bits.deBruijn64tab", "encoding/binary.BigEndian"], apart := false, laid := [("math/bits.deBruijn64tab", laid_math_bits_deBruijn64tab)] }
def FnNextLineKeyWordsSaid : Prop := fnNextLineKeyWordsRow.holds Tryd.pinned (OpenSpec.ofChange fnNextLineKeyWordsSpec)

/-- ITS FALSE NEIGHBOUR: 'it returns false'. Refute it at one input. -/
def fnNextLineKeyWordsWrong : ChangeSpec := { name := "fnNextLineKeyWords", fn := fun _ => fun
  | [d1, d2, d3, d4] => { results := [.lit (.bool false)], args := [d1, d2, d3, d4] }
  | _ => none }
def FnNextLineKeyWordsWrongFalsely : Prop := fnNextLineKeyWordsRow.holds Tryd.pinned (OpenSpec.ofChange fnNextLineKeyWordsWrong)

/-- 'zzlaws_internal_record_b1.FnNextFixedKeyWords': WHATEVER THE INPUT: true; the input reads as it did. -/
def fnNextFixedKeyWordsSpec : ChangeSpec := { name := "fnNextFixedKeyWords", fn := fun _ => fun
  | [d1, d2, d3, d4, d5, d6, d7] => { results := [.lit (.bool true)], args := [d1, d2, d3, d4, d5, d6, d7] }
  | _ => none }
def fnNextFixedKeyWordsRow : OpenClaim := { program := "qxb6613005adoor", sum := "4b9282945dcb11061bc0cab02437b9569cae0a45e1604c01965833b4577cf73c", func := "example.com/blockpass/blockpass/zzlaws_internal_record_b1.FnNextFixedKeyWords", spec := "fnNextFixedKeyWords", named := ["encoding/binary.LittleEndian", "math/bits.deBruijn64tab", "encoding/binary.BigEndian"], apart := false, laid := [("math/bits.deBruijn64tab", laid_math_bits_deBruijn64tab)] }
def FnNextFixedKeyWordsSaid : Prop := fnNextFixedKeyWordsRow.holds Tryd.pinned (OpenSpec.ofChange fnNextFixedKeyWordsSpec)

/-- ITS FALSE NEIGHBOUR: 'it returns false'. Refute it at one input. -/
def fnNextFixedKeyWordsWrong : ChangeSpec := { name := "fnNextFixedKeyWords", fn := fun _ => fun
  | [d1, d2, d3, d4, d5, d6, d7] => { results := [.lit (.bool false)], args := [d1, d2, d3, d4, d5, d6, d7] }
  | _ => none }
def FnNextFixedKeyWordsWrongFalsely : Prop := fnNextFixedKeyWordsRow.holds Tryd.pinned (OpenSpec.ofChange fnNextFixedKeyWordsWrong)

/-- 'zzlaws_internal_record_b1.FnUnterminateJoinsLineToNext': WHATEVER THE INPUT: true; the input reads as it did. -/
def fnUnterminateJoinsLineToNextSpec : ChangeSpec := { name := "fnUnterminateJoinsLineToNext", fn := fun _ => fun
  | [d1, d2, d3] => { results := [.lit (.bool true)], args := [d1, d2, d3] }
  | _ => none }
def fnUnterminateJoinsLineToNextRow : OpenClaim := { program := "qxb6613005adoor", sum := "4b9282945dcb11061bc0cab02437b9569cae0a45e1604c01965833b4577cf73c", func := "example.com/blockpass/blockpass/zzlaws_internal_record_b1.FnUnterminateJoinsLineToNext", spec := "fnUnterminateJoinsLineToNext", named := ["encoding/binary.LittleEndian", "math/bits.deBruijn64tab", "encoding/binary.BigEndian"], apart := false, laid := [("math/bits.deBruijn64tab", laid_math_bits_deBruijn64tab)] }
def FnUnterminateJoinsLineToNextSaid : Prop := fnUnterminateJoinsLineToNextRow.holds Tryd.pinned (OpenSpec.ofChange fnUnterminateJoinsLineToNextSpec)

/-- ITS FALSE NEIGHBOUR: 'it returns false'. Refute it at one input. -/
def fnUnterminateJoinsLineToNextWrong : ChangeSpec := { name := "fnUnterminateJoinsLineToNext", fn := fun _ => fun
  | [d1, d2, d3] => { results := [.lit (.bool false)], args := [d1, d2, d3] }
  | _ => none }
def FnUnterminateJoinsLineToNextWrongFalsely : Prop := fnUnterminateJoinsLineToNextRow.holds Tryd.pinned (OpenSpec.ofChange fnUnterminateJoinsLineToNextWrong)

/-- 'zzlaws_internal_record_b1.FnSpanWalkRebuildsLine': WHATEVER THE INPUT: true; the input reads as it did. -/
def fnSpanWalkRebuildsLineSpec : ChangeSpec := { name := "fnSpanWalkRebuildsLine", fn := fun _ => fun
  | [d] => { results := [.lit (.bool true)], args := [d] }
  | _ => none }
def fnSpanWalkRebuildsLineRow : OpenClaim := { program := "qxb6613005adoor", sum := "4b9282945dcb11061bc0cab02437b9569cae0a45e1604c01965833b4577cf73c", func := "example.com/blockpass/blockpass/zzlaws_internal_record_b1.FnSpanWalkRebuildsLine", spec := "fnSpanWalkRebuildsLine", inPlace := ["internal/bytealg.IndexByte"], unfollowed := true, recurses := true, named := ["io.EOF"], apart := false, laid := [("io.EOF", laid_io_EOF)] }
def FnSpanWalkRebuildsLineSaid : Prop := fnSpanWalkRebuildsLineRow.holds Tryd.pinned (OpenSpec.ofChange fnSpanWalkRebuildsLineSpec)

/-- ITS FALSE NEIGHBOUR: 'it returns false'. Refute it at one input. -/
def fnSpanWalkRebuildsLineWrong : ChangeSpec := { name := "fnSpanWalkRebuildsLine", fn := fun _ => fun
  | [d] => { results := [.lit (.bool false)], args := [d] }
  | _ => none }
def FnSpanWalkRebuildsLineWrongFalsely : Prop := fnSpanWalkRebuildsLineRow.holds Tryd.pinned (OpenSpec.ofChange fnSpanWalkRebuildsLineWrong)

/-- 'zzlaws_internal_record_b1.FnSpanAtAnyIndexIsLineInPlace': WHATEVER THE INPUT: true; the input reads as it did. -/
def fnSpanAtAnyIndexIsLineInPlaceSpec : ChangeSpec := { name := "fnSpanAtAnyIndexIsLineInPlace", fn := fun _ => fun
  | [d1, d2, d3] => { results := [.lit (.bool true)], args := [d1, d2, d3] }
  | _ => none }
def fnSpanAtAnyIndexIsLineInPlaceRow : OpenClaim := { program := "qxb6613005adoor", sum := "4b9282945dcb11061bc0cab02437b9569cae0a45e1604c01965833b4577cf73c", func := "example.com/blockpass/blockpass/zzlaws_internal_record_b1.FnSpanAtAnyIndexIsLineInPlace", spec := "fnSpanAtAnyIndexIsLineInPlace", inPlace := ["internal/bytealg.IndexByte"], unfollowed := true, recurses := true, named := ["io.EOF"], apart := false, laid := [("io.EOF", laid_io_EOF)] }
def FnSpanAtAnyIndexIsLineInPlaceSaid : Prop := fnSpanAtAnyIndexIsLineInPlaceRow.holds Tryd.pinned (OpenSpec.ofChange fnSpanAtAnyIndexIsLineInPlaceSpec)

/-- ITS FALSE NEIGHBOUR: 'it returns false'. Refute it at one input. -/
def fnSpanAtAnyIndexIsLineInPlaceWrong : ChangeSpec := { name := "fnSpanAtAnyIndexIsLineInPlace", fn := fun _ => fun
  | [d1, d2, d3] => { results := [.lit (.bool false)], args := [d1, d2, d3] }
  | _ => none }
def FnSpanAtAnyIndexIsLineInPlaceWrongFalsely : Prop := fnSpanAtAnyIndexIsLineInPlaceRow.holds Tryd.pinned (OpenSpec.ofChange fnSpanAtAnyIndexIsLineInPlaceWrong)

end Rows
end Go.Proofs.Qxb6613005aDoor
