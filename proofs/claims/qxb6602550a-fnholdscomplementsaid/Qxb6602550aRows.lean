/-
  No cell of these rows narrows 'for every input' (looked for: loops, veiled, ifaces, maps, wideKeys, modest, calm, conditions, laid).
  DERIVED. THE GIVEN ROWS OF THIS SEAT. 5 by the template 'for every input the law returns true; each argument reads behind the call as it read before'; 0 by the template 'total and deterministic' (their statements: Qxb6602550aTotals.lean).
  GIVEN WITH THE SEED: the statements are not yours to turn. If you find one false, say at which input.
  Laid BY PROGRAM, IN A SANDBOX (cutbox-rows.mjs): the forced cells as the released guide's own fill.sh prints them over the translation 32004e2b278ba527… (all of the seat's roots in one cut). By AI agents, Wed Nov 11 2026. No macro, syntax, notation, axiom, sorry.
-/
import Derived.Test.Qxb6602550aChecked
import GoSem.Claim
import GoSem.ClaimJoined
import GoSem.ClaimMapViews
import Derived.JoinedTies
import Derived.KernelRfl
namespace Go.Proofs.Qxb6602550a
/- THE CELL 'sum', in the pinned program and in every row, IS THE sha256 OF THE DUMP (.gsa) THAT Qxb6602550aProg.lean LOADS. Nothing in Lean hashes anything: it is a label: what it is worth is what the hold of that sum in a sandbox is worth. -/
noncomputable def Try.pinned : Pinned := { name := "qxb6602550a", sum := "32004e2b278ba52756f236cda4052416b67da876efdbbdb61c52312bcbf314ce", checked := Try.checked }
namespace Rows
def none {H : Type} : Left H := { results := [], args := [] }

/-- 'zzlaws_pkg_rules_b1.FnFixedBodyIgnoresOtherFields': WHATEVER THE INPUT: true; the input reads as it did. -/
def fnFixedBodyIgnoresOtherFieldsSpec : ChangeSpec := { name := "fnFixedBodyIgnoresOtherFields", fn := fun _ => fun
  | [d1, d2, d3, d4, d5, d6, d7, d8, d9, d10, d11] => { results := [.lit (.bool true)], args := [d1, d2, d3, d4, d5, d6, d7, d8, d9, d10, d11] }
  | _ => none }
def fnFixedBodyIgnoresOtherFieldsRow : OpenClaim := { program := "qxb6602550a", sum := "32004e2b278ba52756f236cda4052416b67da876efdbbdb61c52312bcbf314ce", func := "example.com/kindred-ledger/kindred-ledger/zzlaws_pkg_rules_b1.FnFixedBodyIgnoresOtherFields", spec := "fnFixedBodyIgnoresOtherFields", apart := false }
def FnFixedBodyIgnoresOtherFieldsSaid : Prop := fnFixedBodyIgnoresOtherFieldsRow.holds Try.pinned (OpenSpec.ofChange fnFixedBodyIgnoresOtherFieldsSpec)

/-- ITS FALSE NEIGHBOUR: 'it returns false'. Refute it at one input. -/
def fnFixedBodyIgnoresOtherFieldsWrong : ChangeSpec := { name := "fnFixedBodyIgnoresOtherFields", fn := fun _ => fun
  | [d1, d2, d3, d4, d5, d6, d7, d8, d9, d10, d11] => { results := [.lit (.bool false)], args := [d1, d2, d3, d4, d5, d6, d7, d8, d9, d10, d11] }
  | _ => none }
def FnFixedBodyIgnoresOtherFieldsWrongFalsely : Prop := fnFixedBodyIgnoresOtherFieldsRow.holds Try.pinned (OpenSpec.ofChange fnFixedBodyIgnoresOtherFieldsWrong)

/-- 'zzlaws_pkg_rules_b1.FnFixedBodyProRataNeverFreesAFixedBody': WHATEVER THE INPUT: true; the input reads as it did. -/
def fnFixedBodyProRataNeverFreesAFixedBodySpec : ChangeSpec := { name := "fnFixedBodyProRataNeverFreesAFixedBody", fn := fun _ => fun
  | [d1, d2, d3, d4, d5, d6] => { results := [.lit (.bool true)], args := [d1, d2, d3, d4, d5, d6] }
  | _ => none }
def fnFixedBodyProRataNeverFreesAFixedBodyRow : OpenClaim := { program := "qxb6602550a", sum := "32004e2b278ba52756f236cda4052416b67da876efdbbdb61c52312bcbf314ce", func := "example.com/kindred-ledger/kindred-ledger/zzlaws_pkg_rules_b1.FnFixedBodyProRataNeverFreesAFixedBody", spec := "fnFixedBodyProRataNeverFreesAFixedBody", apart := false }
def FnFixedBodyProRataNeverFreesAFixedBodySaid : Prop := fnFixedBodyProRataNeverFreesAFixedBodyRow.holds Try.pinned (OpenSpec.ofChange fnFixedBodyProRataNeverFreesAFixedBodySpec)

/-- ITS FALSE NEIGHBOUR: 'it returns false'. Refute it at one input. -/
def fnFixedBodyProRataNeverFreesAFixedBodyWrong : ChangeSpec := { name := "fnFixedBodyProRataNeverFreesAFixedBody", fn := fun _ => fun
  | [d1, d2, d3, d4, d5, d6] => { results := [.lit (.bool false)], args := [d1, d2, d3, d4, d5, d6] }
  | _ => none }
def FnFixedBodyProRataNeverFreesAFixedBodyWrongFalsely : Prop := fnFixedBodyProRataNeverFreesAFixedBodyRow.holds Try.pinned (OpenSpec.ofChange fnFixedBodyProRataNeverFreesAFixedBodyWrong)

/-- 'zzlaws_pkg_rules_b1.FnHoldsCaseTable': WHATEVER THE INPUT: true; the input reads as it did. -/
def fnHoldsCaseTableSpec : ChangeSpec := { name := "fnHoldsCaseTable", fn := fun _ => fun
  | [d1, d2, d3] => { results := [.lit (.bool true)], args := [d1, d2, d3] }
  | _ => none }
def fnHoldsCaseTableRow : OpenClaim := { program := "qxb6602550a", sum := "32004e2b278ba52756f236cda4052416b67da876efdbbdb61c52312bcbf314ce", func := "example.com/kindred-ledger/kindred-ledger/zzlaws_pkg_rules_b1.FnHoldsCaseTable", spec := "fnHoldsCaseTable", apart := false }
def FnHoldsCaseTableSaid : Prop := fnHoldsCaseTableRow.holds Try.pinned (OpenSpec.ofChange fnHoldsCaseTableSpec)

/-- ITS FALSE NEIGHBOUR: 'it returns false'. Refute it at one input. -/
def fnHoldsCaseTableWrong : ChangeSpec := { name := "fnHoldsCaseTable", fn := fun _ => fun
  | [d1, d2, d3] => { results := [.lit (.bool false)], args := [d1, d2, d3] }
  | _ => none }
def FnHoldsCaseTableWrongFalsely : Prop := fnHoldsCaseTableRow.holds Try.pinned (OpenSpec.ofChange fnHoldsCaseTableWrong)

/-- 'zzlaws_pkg_rules_b1.FnHoldsMonotone': WHATEVER THE INPUT: true; the input reads as it did. -/
def fnHoldsMonotoneSpec : ChangeSpec := { name := "fnHoldsMonotone", fn := fun _ => fun
  | [d1, d2, d3, d4] => { results := [.lit (.bool true)], args := [d1, d2, d3, d4] }
  | _ => none }
def fnHoldsMonotoneRow : OpenClaim := { program := "qxb6602550a", sum := "32004e2b278ba52756f236cda4052416b67da876efdbbdb61c52312bcbf314ce", func := "example.com/kindred-ledger/kindred-ledger/zzlaws_pkg_rules_b1.FnHoldsMonotone", spec := "fnHoldsMonotone", apart := false }
def FnHoldsMonotoneSaid : Prop := fnHoldsMonotoneRow.holds Try.pinned (OpenSpec.ofChange fnHoldsMonotoneSpec)

/-- ITS FALSE NEIGHBOUR: 'it returns false'. Refute it at one input. -/
def fnHoldsMonotoneWrong : ChangeSpec := { name := "fnHoldsMonotone", fn := fun _ => fun
  | [d1, d2, d3, d4] => { results := [.lit (.bool false)], args := [d1, d2, d3, d4] }
  | _ => none }
def FnHoldsMonotoneWrongFalsely : Prop := fnHoldsMonotoneRow.holds Try.pinned (OpenSpec.ofChange fnHoldsMonotoneWrong)

/-- 'zzlaws_pkg_rules_b1.FnHoldsComplement': WHATEVER THE INPUT: true; the input reads as it did. -/
def fnHoldsComplementSpec : ChangeSpec := { name := "fnHoldsComplement", fn := fun _ => fun
  | [d1, d2, d3] => { results := [.lit (.bool true)], args := [d1, d2, d3] }
  | _ => none }
def fnHoldsComplementRow : OpenClaim := { program := "qxb6602550a", sum := "32004e2b278ba52756f236cda4052416b67da876efdbbdb61c52312bcbf314ce", func := "example.com/kindred-ledger/kindred-ledger/zzlaws_pkg_rules_b1.FnHoldsComplement", spec := "fnHoldsComplement", apart := false }
def FnHoldsComplementSaid : Prop := fnHoldsComplementRow.holds Try.pinned (OpenSpec.ofChange fnHoldsComplementSpec)

/-- ITS FALSE NEIGHBOUR: 'it returns false'. Refute it at one input. -/
def fnHoldsComplementWrong : ChangeSpec := { name := "fnHoldsComplement", fn := fun _ => fun
  | [d1, d2, d3] => { results := [.lit (.bool false)], args := [d1, d2, d3] }
  | _ => none }
def FnHoldsComplementWrongFalsely : Prop := fnHoldsComplementRow.holds Try.pinned (OpenSpec.ofChange fnHoldsComplementWrong)

end Rows
end Go.Proofs.Qxb6602550a
