/-
  No cell of these rows narrows 'for every input' (looked for: loops, veiled, ifaces, maps, wideKeys, modest, calm, conditions, laid).
  DERIVED. THE GIVEN ROWS OF THIS SEAT. 6 by the template 'for every input the law returns true; each argument reads behind the call as it read before'; 0 by the template 'total and deterministic' (their statements: Qxb6602766aTotals.lean).
  GIVEN WITH THE SEED: the statements are not yours to turn. If you find one false, say at which input.
  Laid BY PROGRAM, IN A SANDBOX (cutbox-rows.mjs): the forced cells as the released guide's own fill.sh prints them over the translation 4d05c675aadb2e0b… (all of the seat's roots in one cut). By AI agents, Wed Nov 11 2026. No macro, syntax, notation, axiom, sorry.
-/
import Derived.Test.Qxb6602766aChecked
import GoSem.Claim
import GoSem.ClaimJoined
import GoSem.ClaimMapViews
import Derived.JoinedTies
import Derived.KernelRfl
namespace Go.Proofs.Qxb6602766a
/- THE CELL 'sum', in the pinned program and in every row, IS THE sha256 OF THE DUMP (.gsa) THAT Qxb6602766aProg.lean LOADS. Nothing in Lean hashes anything: it is a label: what it is worth is what the hold of that sum in a sandbox is worth. -/
noncomputable def Try.pinned : Pinned := { name := "qxb6602766a", sum := "4d05c675aadb2e0ba8c7c0a2b11ff47aeeae3eb3ece0a498455ae8de232c9542", checked := Try.checked }
namespace Rows
def none {H : Type} : Left H := { results := [], args := [] }

/-- 'zzlaws_httproute_b1.FnPathOfIdempotent': WHATEVER THE INPUT: true; the input reads as it did. -/
def fnPathOfIdempotentSpec : ChangeSpec := { name := "fnPathOfIdempotent", fn := fun _ => fun
  | [d] => { results := [.lit (.bool true)], args := [d] }
  | _ => none }
def fnPathOfIdempotentRow : OpenClaim := { program := "qxb6602766a", sum := "4d05c675aadb2e0ba8c7c0a2b11ff47aeeae3eb3ece0a498455ae8de232c9542", func := "example.com/halyard/halyard/zzlaws_httproute_b1.FnPathOfIdempotent", spec := "fnPathOfIdempotent", inPlace := ["internal/bytealg.IndexByteString", "internal/bytealg.IndexString"], named := ["internal/bytealg.MaxLen"], apart := false }
def FnPathOfIdempotentSaid : Prop := fnPathOfIdempotentRow.holds Try.pinned (OpenSpec.ofChange fnPathOfIdempotentSpec)

/-- ITS FALSE NEIGHBOUR: 'it returns false'. Refute it at one input. -/
def fnPathOfIdempotentWrong : ChangeSpec := { name := "fnPathOfIdempotent", fn := fun _ => fun
  | [d] => { results := [.lit (.bool false)], args := [d] }
  | _ => none }
def FnPathOfIdempotentWrongFalsely : Prop := fnPathOfIdempotentRow.holds Try.pinned (OpenSpec.ofChange fnPathOfIdempotentWrong)

/-- 'zzlaws_httproute_b1.FnPathOfAbsoluteAgreesWithOrigin': WHATEVER THE INPUT: true; the input reads as it did. -/
def fnPathOfAbsoluteAgreesWithOriginSpec : ChangeSpec := { name := "fnPathOfAbsoluteAgreesWithOrigin", fn := fun _ => fun
  | [d1, d2, d3] => { results := [.lit (.bool true)], args := [d1, d2, d3] }
  | _ => none }
def fnPathOfAbsoluteAgreesWithOriginRow : OpenClaim := { program := "qxb6602766a", sum := "4d05c675aadb2e0ba8c7c0a2b11ff47aeeae3eb3ece0a498455ae8de232c9542", func := "example.com/halyard/halyard/zzlaws_httproute_b1.FnPathOfAbsoluteAgreesWithOrigin", spec := "fnPathOfAbsoluteAgreesWithOrigin", inPlace := ["internal/bytealg.IndexByteString", "internal/bytealg.IndexString"], named := ["internal/bytealg.MaxLen"], apart := false }
def FnPathOfAbsoluteAgreesWithOriginSaid : Prop := fnPathOfAbsoluteAgreesWithOriginRow.holds Try.pinned (OpenSpec.ofChange fnPathOfAbsoluteAgreesWithOriginSpec)

/-- ITS FALSE NEIGHBOUR: 'it returns false'. Refute it at one input. -/
def fnPathOfAbsoluteAgreesWithOriginWrong : ChangeSpec := { name := "fnPathOfAbsoluteAgreesWithOrigin", fn := fun _ => fun
  | [d1, d2, d3] => { results := [.lit (.bool false)], args := [d1, d2, d3] }
  | _ => none }
def FnPathOfAbsoluteAgreesWithOriginWrongFalsely : Prop := fnPathOfAbsoluteAgreesWithOriginRow.holds Try.pinned (OpenSpec.ofChange fnPathOfAbsoluteAgreesWithOriginWrong)

/-- 'zzlaws_httproute_b1.FnValidSegmentMatchesPcharModel': WHATEVER THE INPUT: true; the input reads as it did. -/
def fnValidSegmentMatchesPcharModelSpec : ChangeSpec := { name := "fnValidSegmentMatchesPcharModel", fn := fun _ => fun
  | [d] => { results := [.lit (.bool true)], args := [d] }
  | _ => none }
def fnValidSegmentMatchesPcharModelRow : OpenClaim := { program := "qxb6602766a", sum := "4d05c675aadb2e0ba8c7c0a2b11ff47aeeae3eb3ece0a498455ae8de232c9542", func := "example.com/halyard/halyard/zzlaws_httproute_b1.FnValidSegmentMatchesPcharModel", spec := "fnValidSegmentMatchesPcharModel", inPlace := ["internal/bytealg.IndexByteString"], apart := false }
def FnValidSegmentMatchesPcharModelSaid : Prop := fnValidSegmentMatchesPcharModelRow.holds Try.pinned (OpenSpec.ofChange fnValidSegmentMatchesPcharModelSpec)

/-- ITS FALSE NEIGHBOUR: 'it returns false'. Refute it at one input. -/
def fnValidSegmentMatchesPcharModelWrong : ChangeSpec := { name := "fnValidSegmentMatchesPcharModel", fn := fun _ => fun
  | [d] => { results := [.lit (.bool false)], args := [d] }
  | _ => none }
def FnValidSegmentMatchesPcharModelWrongFalsely : Prop := fnValidSegmentMatchesPcharModelRow.holds Try.pinned (OpenSpec.ofChange fnValidSegmentMatchesPcharModelWrong)

/-- 'zzlaws_httproute_b1.FnValidSegmentClosedUnderConcat': WHATEVER THE INPUT: true; the input reads as it did. -/
def fnValidSegmentClosedUnderConcatSpec : ChangeSpec := { name := "fnValidSegmentClosedUnderConcat", fn := fun _ => fun
  | [d1, d2] => { results := [.lit (.bool true)], args := [d1, d2] }
  | _ => none }
def fnValidSegmentClosedUnderConcatRow : OpenClaim := { program := "qxb6602766a", sum := "4d05c675aadb2e0ba8c7c0a2b11ff47aeeae3eb3ece0a498455ae8de232c9542", func := "example.com/halyard/halyard/zzlaws_httproute_b1.FnValidSegmentClosedUnderConcat", spec := "fnValidSegmentClosedUnderConcat", inPlace := ["internal/bytealg.IndexByteString"], apart := false }
def FnValidSegmentClosedUnderConcatSaid : Prop := fnValidSegmentClosedUnderConcatRow.holds Try.pinned (OpenSpec.ofChange fnValidSegmentClosedUnderConcatSpec)

/-- ITS FALSE NEIGHBOUR: 'it returns false'. Refute it at one input. -/
def fnValidSegmentClosedUnderConcatWrong : ChangeSpec := { name := "fnValidSegmentClosedUnderConcat", fn := fun _ => fun
  | [d1, d2] => { results := [.lit (.bool false)], args := [d1, d2] }
  | _ => none }
def FnValidSegmentClosedUnderConcatWrongFalsely : Prop := fnValidSegmentClosedUnderConcatRow.holds Try.pinned (OpenSpec.ofChange fnValidSegmentClosedUnderConcatWrong)

/-- 'zzlaws_httproute_b1.FnValidSegmentSurvivesPathOf': WHATEVER THE INPUT: true; the input reads as it did. -/
def fnValidSegmentSurvivesPathOfSpec : ChangeSpec := { name := "fnValidSegmentSurvivesPathOf", fn := fun _ => fun
  | [d] => { results := [.lit (.bool true)], args := [d] }
  | _ => none }
def fnValidSegmentSurvivesPathOfRow : OpenClaim := { program := "qxb6602766a", sum := "4d05c675aadb2e0ba8c7c0a2b11ff47aeeae3eb3ece0a498455ae8de232c9542", func := "example.com/halyard/halyard/zzlaws_httproute_b1.FnValidSegmentSurvivesPathOf", spec := "fnValidSegmentSurvivesPathOf", inPlace := ["internal/bytealg.IndexByteString", "internal/bytealg.IndexString"], named := ["internal/bytealg.MaxLen"], apart := false }
def FnValidSegmentSurvivesPathOfSaid : Prop := fnValidSegmentSurvivesPathOfRow.holds Try.pinned (OpenSpec.ofChange fnValidSegmentSurvivesPathOfSpec)

/-- ITS FALSE NEIGHBOUR: 'it returns false'. Refute it at one input. -/
def fnValidSegmentSurvivesPathOfWrong : ChangeSpec := { name := "fnValidSegmentSurvivesPathOf", fn := fun _ => fun
  | [d] => { results := [.lit (.bool false)], args := [d] }
  | _ => none }
def FnValidSegmentSurvivesPathOfWrongFalsely : Prop := fnValidSegmentSurvivesPathOfRow.holds Try.pinned (OpenSpec.ofChange fnValidSegmentSurvivesPathOfWrong)

/-- 'zzlaws_httproute_b1.FnReasonInjectiveWherePhrased': WHATEVER THE INPUT: true; the input reads as it did. -/
def fnReasonInjectiveWherePhrasedSpec : ChangeSpec := { name := "fnReasonInjectiveWherePhrased", fn := fun _ => fun
  | [d1, d2] => { results := [.lit (.bool true)], args := [d1, d2] }
  | _ => none }
def fnReasonInjectiveWherePhrasedRow : OpenClaim := { program := "qxb6602766a", sum := "4d05c675aadb2e0ba8c7c0a2b11ff47aeeae3eb3ece0a498455ae8de232c9542", func := "example.com/halyard/halyard/zzlaws_httproute_b1.FnReasonInjectiveWherePhrased", spec := "fnReasonInjectiveWherePhrased", apart := false }
def FnReasonInjectiveWherePhrasedSaid : Prop := fnReasonInjectiveWherePhrasedRow.holds Try.pinned (OpenSpec.ofChange fnReasonInjectiveWherePhrasedSpec)

/-- ITS FALSE NEIGHBOUR: 'it returns false'. Refute it at one input. -/
def fnReasonInjectiveWherePhrasedWrong : ChangeSpec := { name := "fnReasonInjectiveWherePhrased", fn := fun _ => fun
  | [d1, d2] => { results := [.lit (.bool false)], args := [d1, d2] }
  | _ => none }
def FnReasonInjectiveWherePhrasedWrongFalsely : Prop := fnReasonInjectiveWherePhrasedRow.holds Try.pinned (OpenSpec.ofChange fnReasonInjectiveWherePhrasedWrong)

end Rows
end Go.Proofs.Qxb6602766a
