/-
  No cell of these rows narrows 'for every input' (looked for: loops, veiled, ifaces, maps, wideKeys, modest, calm, conditions, laid).
  DERIVED. THE GIVEN ROWS OF THIS SEAT. 8 by the template 'for every input the law returns true; each argument reads behind the call as it read before'; 0 by the template 'total and deterministic' (their statements: Qxb6602355aTotals.lean).
  GIVEN WITH THE SEED: the statements are not yours to turn. If you find one false, say at which input.
  Laid BY PROGRAM, IN A SANDBOX (cutbox-rows.mjs): the forced cells as the released guide's own fill.sh prints them over the translation 378b276ec729dfad… (all of the seat's roots in one cut). By AI agents, Wed Nov 11 2026. No macro, syntax, notation, axiom, sorry.
-/
import Derived.Test.Qxb6602355aChecked
import GoSem.Claim
import GoSem.ClaimJoined
import GoSem.ClaimMapViews
import Derived.JoinedTies
import Derived.KernelRfl
namespace Go.Proofs.Qxb6602355a
/- THE CELL 'sum', in the pinned program and in every row, IS THE sha256 OF THE DUMP (.gsa) THAT Qxb6602355aProg.lean LOADS. Nothing in Lean hashes anything: it is a label: what it is worth is what the hold of that sum in a sandbox is worth. -/
noncomputable def Try.pinned : Pinned := { name := "qxb6602355a", sum := "378b276ec729dfad6aabd232f1f966e9c34e87990588d3213514def7d015851f", checked := Try.checked }
namespace Rows
def none {H : Type} : Left H := { results := [], args := [] }

/-- 'zzlaws_internal_plan_b1.FnQuotedLenMatchesParityModel': WHATEVER THE INPUT: true; the input reads as it did. -/
def fnQuotedLenMatchesParityModelSpec : ChangeSpec := { name := "fnQuotedLenMatchesParityModel", fn := fun _ => fun
  | [d] => { results := [.lit (.bool true)], args := [d] }
  | _ => none }
def fnQuotedLenMatchesParityModelRow : OpenClaim := { program := "qxb6602355a", sum := "378b276ec729dfad6aabd232f1f966e9c34e87990588d3213514def7d015851f", func := "example.com/vestbook/vestbook/zzlaws_internal_plan_b1.FnQuotedLenMatchesParityModel", spec := "fnQuotedLenMatchesParityModel", apart := false }
def FnQuotedLenMatchesParityModelSaid : Prop := fnQuotedLenMatchesParityModelRow.holds Try.pinned (OpenSpec.ofChange fnQuotedLenMatchesParityModelSpec)

/-- ITS FALSE NEIGHBOUR: 'it returns false'. Refute it at one input. -/
def fnQuotedLenMatchesParityModelWrong : ChangeSpec := { name := "fnQuotedLenMatchesParityModel", fn := fun _ => fun
  | [d] => { results := [.lit (.bool false)], args := [d] }
  | _ => none }
def FnQuotedLenMatchesParityModelWrongFalsely : Prop := fnQuotedLenMatchesParityModelRow.holds Try.pinned (OpenSpec.ofChange fnQuotedLenMatchesParityModelWrong)

/-- 'zzlaws_internal_plan_b1.FnQuotedLenKeepsItsAnswerWhenTextIsAppended': WHATEVER THE INPUT: true; the input reads as it did. -/
def fnQuotedLenKeepsItsAnswerWhenTextIsAppendedSpec : ChangeSpec := { name := "fnQuotedLenKeepsItsAnswerWhenTextIsAppended", fn := fun _ => fun
  | [d1, d2] => { results := [.lit (.bool true)], args := [d1, d2] }
  | _ => none }
def fnQuotedLenKeepsItsAnswerWhenTextIsAppendedRow : OpenClaim := { program := "qxb6602355a", sum := "378b276ec729dfad6aabd232f1f966e9c34e87990588d3213514def7d015851f", func := "example.com/vestbook/vestbook/zzlaws_internal_plan_b1.FnQuotedLenKeepsItsAnswerWhenTextIsAppended", spec := "fnQuotedLenKeepsItsAnswerWhenTextIsAppended", apart := false }
def FnQuotedLenKeepsItsAnswerWhenTextIsAppendedSaid : Prop := fnQuotedLenKeepsItsAnswerWhenTextIsAppendedRow.holds Try.pinned (OpenSpec.ofChange fnQuotedLenKeepsItsAnswerWhenTextIsAppendedSpec)

/-- ITS FALSE NEIGHBOUR: 'it returns false'. Refute it at one input. -/
def fnQuotedLenKeepsItsAnswerWhenTextIsAppendedWrong : ChangeSpec := { name := "fnQuotedLenKeepsItsAnswerWhenTextIsAppended", fn := fun _ => fun
  | [d1, d2] => { results := [.lit (.bool false)], args := [d1, d2] }
  | _ => none }
def FnQuotedLenKeepsItsAnswerWhenTextIsAppendedWrongFalsely : Prop := fnQuotedLenKeepsItsAnswerWhenTextIsAppendedRow.holds Try.pinned (OpenSpec.ofChange fnQuotedLenKeepsItsAnswerWhenTextIsAppendedWrong)

/-- 'zzlaws_internal_plan_b1.FnQuotedLenAgreesWithStringEnd': WHATEVER THE INPUT: true; the input reads as it did. -/
def fnQuotedLenAgreesWithStringEndSpec : ChangeSpec := { name := "fnQuotedLenAgreesWithStringEnd", fn := fun _ => fun
  | [d] => { results := [.lit (.bool true)], args := [d] }
  | _ => none }
def fnQuotedLenAgreesWithStringEndRow : OpenClaim := { program := "qxb6602355a", sum := "378b276ec729dfad6aabd232f1f966e9c34e87990588d3213514def7d015851f", func := "example.com/vestbook/vestbook/zzlaws_internal_plan_b1.FnQuotedLenAgreesWithStringEnd", spec := "fnQuotedLenAgreesWithStringEnd", apart := false }
def FnQuotedLenAgreesWithStringEndSaid : Prop := fnQuotedLenAgreesWithStringEndRow.holds Try.pinned (OpenSpec.ofChange fnQuotedLenAgreesWithStringEndSpec)

/-- ITS FALSE NEIGHBOUR: 'it returns false'. Refute it at one input. -/
def fnQuotedLenAgreesWithStringEndWrong : ChangeSpec := { name := "fnQuotedLenAgreesWithStringEnd", fn := fun _ => fun
  | [d] => { results := [.lit (.bool false)], args := [d] }
  | _ => none }
def FnQuotedLenAgreesWithStringEndWrongFalsely : Prop := fnQuotedLenAgreesWithStringEndRow.holds Try.pinned (OpenSpec.ofChange fnQuotedLenAgreesWithStringEndWrong)

/-- 'zzlaws_internal_plan_b1.FnStringEndMatchesQuoteRunModel': WHATEVER THE INPUT: true; the input reads as it did. -/
def fnStringEndMatchesQuoteRunModelSpec : ChangeSpec := { name := "fnStringEndMatchesQuoteRunModel", fn := fun _ => fun
  | [d1, d2] => { results := [.lit (.bool true)], args := [d1, d2] }
  | _ => none }
def fnStringEndMatchesQuoteRunModelRow : OpenClaim := { program := "qxb6602355a", sum := "378b276ec729dfad6aabd232f1f966e9c34e87990588d3213514def7d015851f", func := "example.com/vestbook/vestbook/zzlaws_internal_plan_b1.FnStringEndMatchesQuoteRunModel", spec := "fnStringEndMatchesQuoteRunModel", apart := false }
def FnStringEndMatchesQuoteRunModelSaid : Prop := fnStringEndMatchesQuoteRunModelRow.holds Try.pinned (OpenSpec.ofChange fnStringEndMatchesQuoteRunModelSpec)

/-- ITS FALSE NEIGHBOUR: 'it returns false'. Refute it at one input. -/
def fnStringEndMatchesQuoteRunModelWrong : ChangeSpec := { name := "fnStringEndMatchesQuoteRunModel", fn := fun _ => fun
  | [d1, d2] => { results := [.lit (.bool false)], args := [d1, d2] }
  | _ => none }
def FnStringEndMatchesQuoteRunModelWrongFalsely : Prop := fnStringEndMatchesQuoteRunModelRow.holds Try.pinned (OpenSpec.ofChange fnStringEndMatchesQuoteRunModelWrong)

/-- 'zzlaws_internal_plan_b1.FnStringEndStaysInsideDataAndEndsOnAQuote': WHATEVER THE INPUT: true; the input reads as it did. -/
def fnStringEndStaysInsideDataAndEndsOnAQuoteSpec : ChangeSpec := { name := "fnStringEndStaysInsideDataAndEndsOnAQuote", fn := fun _ => fun
  | [d1, d2] => { results := [.lit (.bool true)], args := [d1, d2] }
  | _ => none }
def fnStringEndStaysInsideDataAndEndsOnAQuoteRow : OpenClaim := { program := "qxb6602355a", sum := "378b276ec729dfad6aabd232f1f966e9c34e87990588d3213514def7d015851f", func := "example.com/vestbook/vestbook/zzlaws_internal_plan_b1.FnStringEndStaysInsideDataAndEndsOnAQuote", spec := "fnStringEndStaysInsideDataAndEndsOnAQuote", apart := false }
def FnStringEndStaysInsideDataAndEndsOnAQuoteSaid : Prop := fnStringEndStaysInsideDataAndEndsOnAQuoteRow.holds Try.pinned (OpenSpec.ofChange fnStringEndStaysInsideDataAndEndsOnAQuoteSpec)

/-- ITS FALSE NEIGHBOUR: 'it returns false'. Refute it at one input. -/
def fnStringEndStaysInsideDataAndEndsOnAQuoteWrong : ChangeSpec := { name := "fnStringEndStaysInsideDataAndEndsOnAQuote", fn := fun _ => fun
  | [d1, d2] => { results := [.lit (.bool false)], args := [d1, d2] }
  | _ => none }
def FnStringEndStaysInsideDataAndEndsOnAQuoteWrongFalsely : Prop := fnStringEndStaysInsideDataAndEndsOnAQuoteRow.holds Try.pinned (OpenSpec.ofChange fnStringEndStaysInsideDataAndEndsOnAQuoteWrong)

/-- 'zzlaws_internal_plan_b1.FnExcerptTermsMatchesTermModel': WHATEVER THE INPUT: true; the input reads as it did. -/
def fnExcerptTermsMatchesTermModelSpec : ChangeSpec := { name := "fnExcerptTermsMatchesTermModel", fn := fun _ => fun
  | [d] => { results := [.lit (.bool true)], args := [d] }
  | _ => none }
def fnExcerptTermsMatchesTermModelRow : OpenClaim := { program := "qxb6602355a", sum := "378b276ec729dfad6aabd232f1f966e9c34e87990588d3213514def7d015851f", func := "example.com/vestbook/vestbook/zzlaws_internal_plan_b1.FnExcerptTermsMatchesTermModel", spec := "fnExcerptTermsMatchesTermModel", inPlace := ["internal/abi.NoEscape"], apart := false }
def FnExcerptTermsMatchesTermModelSaid : Prop := fnExcerptTermsMatchesTermModelRow.holds Try.pinned (OpenSpec.ofChange fnExcerptTermsMatchesTermModelSpec)

/-- ITS FALSE NEIGHBOUR: 'it returns false'. Refute it at one input. -/
def fnExcerptTermsMatchesTermModelWrong : ChangeSpec := { name := "fnExcerptTermsMatchesTermModel", fn := fun _ => fun
  | [d] => { results := [.lit (.bool false)], args := [d] }
  | _ => none }
def FnExcerptTermsMatchesTermModelWrongFalsely : Prop := fnExcerptTermsMatchesTermModelRow.holds Try.pinned (OpenSpec.ofChange fnExcerptTermsMatchesTermModelWrong)

/-- 'zzlaws_internal_plan_b1.FnExcerptTermsOfOneTermIsExcerpt': WHATEVER THE INPUT: true; the input reads as it did. -/
def fnExcerptTermsOfOneTermIsExcerptSpec : ChangeSpec := { name := "fnExcerptTermsOfOneTermIsExcerpt", fn := fun _ => fun
  | [d] => { results := [.lit (.bool true)], args := [d] }
  | _ => none }
def fnExcerptTermsOfOneTermIsExcerptRow : OpenClaim := { program := "qxb6602355a", sum := "378b276ec729dfad6aabd232f1f966e9c34e87990588d3213514def7d015851f", func := "example.com/vestbook/vestbook/zzlaws_internal_plan_b1.FnExcerptTermsOfOneTermIsExcerpt", spec := "fnExcerptTermsOfOneTermIsExcerpt", inPlace := ["internal/abi.NoEscape"], apart := false }
def FnExcerptTermsOfOneTermIsExcerptSaid : Prop := fnExcerptTermsOfOneTermIsExcerptRow.holds Try.pinned (OpenSpec.ofChange fnExcerptTermsOfOneTermIsExcerptSpec)

/-- ITS FALSE NEIGHBOUR: 'it returns false'. Refute it at one input. -/
def fnExcerptTermsOfOneTermIsExcerptWrong : ChangeSpec := { name := "fnExcerptTermsOfOneTermIsExcerpt", fn := fun _ => fun
  | [d] => { results := [.lit (.bool false)], args := [d] }
  | _ => none }
def FnExcerptTermsOfOneTermIsExcerptWrongFalsely : Prop := fnExcerptTermsOfOneTermIsExcerptRow.holds Try.pinned (OpenSpec.ofChange fnExcerptTermsOfOneTermIsExcerptWrong)

/-- 'zzlaws_internal_plan_b1.FnExcerptTermsSplitsAtAQuoteFreeSpace': WHATEVER THE INPUT: true; the input reads as it did. -/
def fnExcerptTermsSplitsAtAQuoteFreeSpaceSpec : ChangeSpec := { name := "fnExcerptTermsSplitsAtAQuoteFreeSpace", fn := fun _ => fun
  | [d1, d2] => { results := [.lit (.bool true)], args := [d1, d2] }
  | _ => none }
def fnExcerptTermsSplitsAtAQuoteFreeSpaceRow : OpenClaim := { program := "qxb6602355a", sum := "378b276ec729dfad6aabd232f1f966e9c34e87990588d3213514def7d015851f", func := "example.com/vestbook/vestbook/zzlaws_internal_plan_b1.FnExcerptTermsSplitsAtAQuoteFreeSpace", spec := "fnExcerptTermsSplitsAtAQuoteFreeSpace", inPlace := ["internal/abi.NoEscape"], apart := false }
def FnExcerptTermsSplitsAtAQuoteFreeSpaceSaid : Prop := fnExcerptTermsSplitsAtAQuoteFreeSpaceRow.holds Try.pinned (OpenSpec.ofChange fnExcerptTermsSplitsAtAQuoteFreeSpaceSpec)

/-- ITS FALSE NEIGHBOUR: 'it returns false'. Refute it at one input. -/
def fnExcerptTermsSplitsAtAQuoteFreeSpaceWrong : ChangeSpec := { name := "fnExcerptTermsSplitsAtAQuoteFreeSpace", fn := fun _ => fun
  | [d1, d2] => { results := [.lit (.bool false)], args := [d1, d2] }
  | _ => none }
def FnExcerptTermsSplitsAtAQuoteFreeSpaceWrongFalsely : Prop := fnExcerptTermsSplitsAtAQuoteFreeSpaceRow.holds Try.pinned (OpenSpec.ofChange fnExcerptTermsSplitsAtAQuoteFreeSpaceWrong)

end Rows
end Go.Proofs.Qxb6602355a
