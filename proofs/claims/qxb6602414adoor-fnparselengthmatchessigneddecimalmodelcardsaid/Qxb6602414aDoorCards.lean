/-
  DERIVED. GIVEN WITH THE SEED: THE CARDS: each row of Qxb6602414aDoorRows.lean that lists a variable, with what it lists TIED to the program's text (the seventh form; the later family's looks); each row that meets fmt, with fmt's text TOLD by the authors' own Lean function (tested against real Go, not proved from fmt's source: count such statements apart). THE CARD IS WHAT COUNTS. Prove the row's statement (the work); the ties are given (Qxb6602414aDoorTie.lean); close each card by the builder's one call (the guide's Derived/Test/ToyasCard.lean, 'card_holds'). Laid BY PROGRAM, IN A SANDBOX (cutbox-door.mjs). By AI agents, Wed Nov 11 2026. No macro, syntax, notation, axiom, sorry.
-/
import Derived.Test.Qxb6602414aDoorRows
import GoSem.ClaimSeven
namespace Go.Proofs.Qxb6602414aDoor
namespace Rows

/-- THE TIED CARD OF 'zzlaws_internal_resp_b1.FnAppendQuotedReadsBackDoubleQuotedText'. -/
def fnAppendQuotedReadsBackDoubleQuotedTextCard : Claim7 := { stood := { row := fnAppendQuotedReadsBackDoubleQuotedTextRow, standIns := [], harness := (true, "f397bb00dc6b37f6b8fd70c8c1ce9c888488db78adad240adfaba720a78829bf"), looks := true }, kinds := [], alts := [], laidByText := true, laidKinds := [.data, .data, .data, .sentinel, .sentinel], laidTests := true, laidLooks := .later }
def FnAppendQuotedReadsBackDoubleQuotedTextCardSaid : Prop := Claim7.holds Tryd.pinned (.plain (OpenSpec.ofChange fnAppendQuotedReadsBackDoubleQuotedTextSpec)) fnAppendQuotedReadsBackDoubleQuotedTextCard

/-- THE TIED CARD OF 'zzlaws_internal_resp_b1.FnAppendQuotedReadsBackSingleQuotedText'. -/
def fnAppendQuotedReadsBackSingleQuotedTextCard : Claim7 := { stood := { row := fnAppendQuotedReadsBackSingleQuotedTextRow, standIns := [], harness := (true, "f397bb00dc6b37f6b8fd70c8c1ce9c888488db78adad240adfaba720a78829bf"), looks := true }, kinds := [], alts := [], laidByText := true, laidKinds := [.data, .data, .data, .sentinel, .sentinel], laidTests := true, laidLooks := .later }
def FnAppendQuotedReadsBackSingleQuotedTextCardSaid : Prop := Claim7.holds Tryd.pinned (.plain (OpenSpec.ofChange fnAppendQuotedReadsBackSingleQuotedTextSpec)) fnAppendQuotedReadsBackSingleQuotedTextCard

/-- THE TIED CARD OF 'zzlaws_internal_resp_b1.FnParseLengthMatchesSignedDecimalModel'. -/
def fnParseLengthMatchesSignedDecimalModelCard : Claim7 := { stood := { row := fnParseLengthMatchesSignedDecimalModelRow, standIns := [], harness := (true, "f397bb00dc6b37f6b8fd70c8c1ce9c888488db78adad240adfaba720a78829bf"), looks := true }, kinds := [], alts := [], laidByText := true, laidKinds := [.data, .data, .data, .sentinel, .sentinel], laidTests := true, laidLooks := .later }
def FnParseLengthMatchesSignedDecimalModelCardSaid : Prop := Claim7.holds Tryd.pinned (.plain (OpenSpec.ofChange fnParseLengthMatchesSignedDecimalModelSpec)) fnParseLengthMatchesSignedDecimalModelCard
end Rows
end Go.Proofs.Qxb6602414aDoor
