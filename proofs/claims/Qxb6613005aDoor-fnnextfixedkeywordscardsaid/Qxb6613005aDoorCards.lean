/-
  DERIVED. GIVEN WITH THE SEED: THE CARDS: each row of Qxb6613005aDoorRows.lean that lists a variable, with what it lists TIED to the program's text (the seventh form; the later family's looks); each row that meets fmt, with fmt's text TOLD by the authors' own Lean function (tested against real Go, not proved from fmt's source: count such statements apart). THE CARD IS WHAT COUNTS. Prove the row's statement (the work); the ties are given (Qxb6613005aDoorTie.lean); close each card by the builder's one call (the guide's Derived/Test/ToyasCard.lean, 'card_holds'). Laid BY PROGRAM, IN A SANDBOX (cutbox-door.mjs). By AI agents, Wed Nov 11 2026. No macro, syntax, notation, axiom, sorry.
-/
import Derived.Test.Qxb6613005aDoorRows
import GoSem.ClaimSeven
namespace Go.Proofs.Qxb6613005aDoor
namespace Rows

/-- THE TIED CARD OF 'zzlaws_internal_record_b1.FnNextLineKeyWords'. -/
def fnNextLineKeyWordsCard : Claim7 := { stood := { row := fnNextLineKeyWordsRow, standIns := [], harness := (true, "640e9ce4d5a2f1d7639c0a6d5bc837c5cfc2fb9df78dac8a30bf1e62f99c3212"), looks := true }, kinds := [], alts := [], laidByText := true, laidKinds := [.data], laidTests := true, laidLooks := .later }
def FnNextLineKeyWordsCardSaid : Prop := Claim7.holds Tryd.pinned (.plain (OpenSpec.ofChange fnNextLineKeyWordsSpec)) fnNextLineKeyWordsCard

/-- THE TIED CARD OF 'zzlaws_internal_record_b1.FnNextFixedKeyWords'. -/
def fnNextFixedKeyWordsCard : Claim7 := { stood := { row := fnNextFixedKeyWordsRow, standIns := [], harness := (true, "640e9ce4d5a2f1d7639c0a6d5bc837c5cfc2fb9df78dac8a30bf1e62f99c3212"), looks := true }, kinds := [], alts := [], laidByText := true, laidKinds := [.data], laidTests := true, laidLooks := .later }
def FnNextFixedKeyWordsCardSaid : Prop := Claim7.holds Tryd.pinned (.plain (OpenSpec.ofChange fnNextFixedKeyWordsSpec)) fnNextFixedKeyWordsCard

/-- THE TIED CARD OF 'zzlaws_internal_record_b1.FnUnterminateJoinsLineToNext'. -/
def fnUnterminateJoinsLineToNextCard : Claim7 := { stood := { row := fnUnterminateJoinsLineToNextRow, standIns := [], harness := (true, "640e9ce4d5a2f1d7639c0a6d5bc837c5cfc2fb9df78dac8a30bf1e62f99c3212"), looks := true }, kinds := [], alts := [], laidByText := true, laidKinds := [.data], laidTests := true, laidLooks := .later }
def FnUnterminateJoinsLineToNextCardSaid : Prop := Claim7.holds Tryd.pinned (.plain (OpenSpec.ofChange fnUnterminateJoinsLineToNextSpec)) fnUnterminateJoinsLineToNextCard

/-- THE TIED CARD OF 'zzlaws_internal_record_b1.FnSpanWalkRebuildsLine'. -/
def fnSpanWalkRebuildsLineCard : Claim7 := { stood := { row := fnSpanWalkRebuildsLineRow, standIns := [], harness := (true, "640e9ce4d5a2f1d7639c0a6d5bc837c5cfc2fb9df78dac8a30bf1e62f99c3212"), looks := true }, kinds := [], alts := [], laidByText := true, laidKinds := [.sentinel], laidTests := true, laidLooks := .later }
def FnSpanWalkRebuildsLineCardSaid : Prop := Claim7.holds Tryd.pinned (.plain (OpenSpec.ofChange fnSpanWalkRebuildsLineSpec)) fnSpanWalkRebuildsLineCard

/-- THE TIED CARD OF 'zzlaws_internal_record_b1.FnSpanAtAnyIndexIsLineInPlace'. -/
def fnSpanAtAnyIndexIsLineInPlaceCard : Claim7 := { stood := { row := fnSpanAtAnyIndexIsLineInPlaceRow, standIns := [], harness := (true, "640e9ce4d5a2f1d7639c0a6d5bc837c5cfc2fb9df78dac8a30bf1e62f99c3212"), looks := true }, kinds := [], alts := [], laidByText := true, laidKinds := [.sentinel], laidTests := true, laidLooks := .later }
def FnSpanAtAnyIndexIsLineInPlaceCardSaid : Prop := Claim7.holds Tryd.pinned (.plain (OpenSpec.ofChange fnSpanAtAnyIndexIsLineInPlaceSpec)) fnSpanAtAnyIndexIsLineInPlaceCard
end Rows
end Go.Proofs.Qxb6613005aDoor
