/-
  No cell of these rows narrows 'for every input' (looked for: loops, veiled, ifaces, maps, wideKeys, modest, calm, conditions, laid).
  DERIVED. THE GIVEN ROWS OF THIS SEAT. 8 by the template 'for every input the law returns true; each argument reads behind the call as it read before'; 0 by the template 'total and deterministic' (their statements: Qxb6602990aTotals.lean).
  GIVEN WITH THE SEED: the statements are not yours to turn. If you find one false, say at which input.
  Laid BY PROGRAM, IN A SANDBOX (cutbox-rows.mjs): the forced cells as the released guide's own fill.sh prints them over the translation de3f7b172636b64c… (all of the seat's roots in one cut). By AI agents, Wed Nov 11 2026. No macro, syntax, notation, axiom, sorry.
-/
import Derived.Test.Qxb6602990aChecked
import GoSem.Claim
import GoSem.ClaimJoined
import GoSem.ClaimMapViews
import Derived.JoinedTies
import Derived.KernelRfl
namespace Go.Proofs.Qxb6602990a
/- THE CELL 'sum', in the pinned program and in every row, IS THE sha256 OF THE DUMP (.gsa) THAT Qxb6602990aProg.lean LOADS. Nothing in Lean hashes anything: it is a label: what it is worth is what the hold of that sum in a sandbox is worth. -/
noncomputable def Try.pinned : Pinned := { name := "qxb6602990a", sum := "de3f7b172636b64c665216026cd599bdef81723f26e17161a5c38e73df0a8735", checked := Try.checked }
namespace Rows
def none {H : Type} : Left H := { results := [], args := [] }

/-- 'zzlaws_internal_policy_b1.FnDropCoveredMatchesPairwiseModel': WHATEVER THE INPUT: true; the input reads as it did. -/
def fnDropCoveredMatchesPairwiseModelSpec : ChangeSpec := { name := "fnDropCoveredMatchesPairwiseModel", fn := fun _ => fun
  | [d] => { results := [.lit (.bool true)], args := [d] }
  | _ => none }
def fnDropCoveredMatchesPairwiseModelRow : OpenClaim := { program := "qxb6602990a", sum := "de3f7b172636b64c665216026cd599bdef81723f26e17161a5c38e73df0a8735", func := "example.com/rowan/rowan/zzlaws_internal_policy_b1.FnDropCoveredMatchesPairwiseModel", spec := "fnDropCoveredMatchesPairwiseModel", inPlace := ["internal/bytealg.IndexByteString", "internal/bytealg.IndexString"], recurses := true, named := ["internal/bytealg.MaxLen"], apart := false }
def FnDropCoveredMatchesPairwiseModelSaid : Prop := fnDropCoveredMatchesPairwiseModelRow.holds Try.pinned (OpenSpec.ofChange fnDropCoveredMatchesPairwiseModelSpec)

/-- ITS FALSE NEIGHBOUR: 'it returns false'. Refute it at one input. -/
def fnDropCoveredMatchesPairwiseModelWrong : ChangeSpec := { name := "fnDropCoveredMatchesPairwiseModel", fn := fun _ => fun
  | [d] => { results := [.lit (.bool false)], args := [d] }
  | _ => none }
def FnDropCoveredMatchesPairwiseModelWrongFalsely : Prop := fnDropCoveredMatchesPairwiseModelRow.holds Try.pinned (OpenSpec.ofChange fnDropCoveredMatchesPairwiseModelWrong)

/-- 'zzlaws_internal_policy_b1.FnDropCoveredIsIdempotent': WHATEVER THE INPUT: true; the input reads as it did. -/
def fnDropCoveredIsIdempotentSpec : ChangeSpec := { name := "fnDropCoveredIsIdempotent", fn := fun _ => fun
  | [d] => { results := [.lit (.bool true)], args := [d] }
  | _ => none }
def fnDropCoveredIsIdempotentRow : OpenClaim := { program := "qxb6602990a", sum := "de3f7b172636b64c665216026cd599bdef81723f26e17161a5c38e73df0a8735", func := "example.com/rowan/rowan/zzlaws_internal_policy_b1.FnDropCoveredIsIdempotent", spec := "fnDropCoveredIsIdempotent", inPlace := ["internal/bytealg.IndexByteString", "internal/bytealg.IndexString"], recurses := true, named := ["internal/bytealg.MaxLen"], apart := false }
def FnDropCoveredIsIdempotentSaid : Prop := fnDropCoveredIsIdempotentRow.holds Try.pinned (OpenSpec.ofChange fnDropCoveredIsIdempotentSpec)

/-- ITS FALSE NEIGHBOUR: 'it returns false'. Refute it at one input. -/
def fnDropCoveredIsIdempotentWrong : ChangeSpec := { name := "fnDropCoveredIsIdempotent", fn := fun _ => fun
  | [d] => { results := [.lit (.bool false)], args := [d] }
  | _ => none }
def FnDropCoveredIsIdempotentWrongFalsely : Prop := fnDropCoveredIsIdempotentRow.holds Try.pinned (OpenSpec.ofChange fnDropCoveredIsIdempotentWrong)

/-- 'zzlaws_internal_policy_b1.FnDropCoveredLosesNoPermission': WHATEVER THE INPUT: true; the input reads as it did. -/
def fnDropCoveredLosesNoPermissionSpec : ChangeSpec := { name := "fnDropCoveredLosesNoPermission", fn := fun _ => fun
  | [d] => { results := [.lit (.bool true)], args := [d] }
  | _ => none }
def fnDropCoveredLosesNoPermissionRow : OpenClaim := { program := "qxb6602990a", sum := "de3f7b172636b64c665216026cd599bdef81723f26e17161a5c38e73df0a8735", func := "example.com/rowan/rowan/zzlaws_internal_policy_b1.FnDropCoveredLosesNoPermission", spec := "fnDropCoveredLosesNoPermission", inPlace := ["internal/bytealg.IndexByteString", "internal/bytealg.IndexString"], recurses := true, named := ["internal/bytealg.MaxLen"], apart := false }
def FnDropCoveredLosesNoPermissionSaid : Prop := fnDropCoveredLosesNoPermissionRow.holds Try.pinned (OpenSpec.ofChange fnDropCoveredLosesNoPermissionSpec)

/-- ITS FALSE NEIGHBOUR: 'it returns false'. Refute it at one input. -/
def fnDropCoveredLosesNoPermissionWrong : ChangeSpec := { name := "fnDropCoveredLosesNoPermission", fn := fun _ => fun
  | [d] => { results := [.lit (.bool false)], args := [d] }
  | _ => none }
def FnDropCoveredLosesNoPermissionWrongFalsely : Prop := fnDropCoveredLosesNoPermissionRow.holds Try.pinned (OpenSpec.ofChange fnDropCoveredLosesNoPermissionWrong)

/-- 'zzlaws_internal_policy_b1.FnJsConsumeNamedConsumerGrantsNoMore': WHATEVER THE INPUT: true; the input reads as it did. -/
def fnJsConsumeNamedConsumerGrantsNoMoreSpec : ChangeSpec := { name := "fnJsConsumeNamedConsumerGrantsNoMore", fn := fun _ => fun
  | [d1, d2, d3] => { results := [.lit (.bool true)], args := [d1, d2, d3] }
  | _ => none }
def fnJsConsumeNamedConsumerGrantsNoMoreRow : OpenClaim := { program := "qxb6602990a", sum := "de3f7b172636b64c665216026cd599bdef81723f26e17161a5c38e73df0a8735", func := "example.com/rowan/rowan/zzlaws_internal_policy_b1.FnJsConsumeNamedConsumerGrantsNoMore", spec := "fnJsConsumeNamedConsumerGrantsNoMore", inPlace := ["internal/bytealg.IndexByteString", "internal/bytealg.IndexString"], recurses := true, named := ["internal/bytealg.MaxLen"], apart := false }
def FnJsConsumeNamedConsumerGrantsNoMoreSaid : Prop := fnJsConsumeNamedConsumerGrantsNoMoreRow.holds Try.pinned (OpenSpec.ofChange fnJsConsumeNamedConsumerGrantsNoMoreSpec)

/-- ITS FALSE NEIGHBOUR: 'it returns false'. Refute it at one input. -/
def fnJsConsumeNamedConsumerGrantsNoMoreWrong : ChangeSpec := { name := "fnJsConsumeNamedConsumerGrantsNoMore", fn := fun _ => fun
  | [d1, d2, d3] => { results := [.lit (.bool false)], args := [d1, d2, d3] }
  | _ => none }
def FnJsConsumeNamedConsumerGrantsNoMoreWrongFalsely : Prop := fnJsConsumeNamedConsumerGrantsNoMoreRow.holds Try.pinned (OpenSpec.ofChange fnJsConsumeNamedConsumerGrantsNoMoreWrong)

/-- 'zzlaws_internal_policy_b1.FnJsConsumeNamedGrantSparesOtherConsumers': WHATEVER THE INPUT: true; the input reads as it did. -/
def fnJsConsumeNamedGrantSparesOtherConsumersSpec : ChangeSpec := { name := "fnJsConsumeNamedGrantSparesOtherConsumers", fn := fun _ => fun
  | [d1, d2, d3, d4] => { results := [.lit (.bool true)], args := [d1, d2, d3, d4] }
  | _ => none }
def fnJsConsumeNamedGrantSparesOtherConsumersRow : OpenClaim := { program := "qxb6602990a", sum := "de3f7b172636b64c665216026cd599bdef81723f26e17161a5c38e73df0a8735", func := "example.com/rowan/rowan/zzlaws_internal_policy_b1.FnJsConsumeNamedGrantSparesOtherConsumers", spec := "fnJsConsumeNamedGrantSparesOtherConsumers", inPlace := ["internal/bytealg.IndexByteString", "internal/bytealg.IndexString"], recurses := true, named := ["internal/bytealg.MaxLen"], apart := false }
def FnJsConsumeNamedGrantSparesOtherConsumersSaid : Prop := fnJsConsumeNamedGrantSparesOtherConsumersRow.holds Try.pinned (OpenSpec.ofChange fnJsConsumeNamedGrantSparesOtherConsumersSpec)

/-- ITS FALSE NEIGHBOUR: 'it returns false'. Refute it at one input. -/
def fnJsConsumeNamedGrantSparesOtherConsumersWrong : ChangeSpec := { name := "fnJsConsumeNamedGrantSparesOtherConsumers", fn := fun _ => fun
  | [d1, d2, d3, d4] => { results := [.lit (.bool false)], args := [d1, d2, d3, d4] }
  | _ => none }
def FnJsConsumeNamedGrantSparesOtherConsumersWrongFalsely : Prop := fnJsConsumeNamedGrantSparesOtherConsumersRow.holds Try.pinned (OpenSpec.ofChange fnJsConsumeNamedGrantSparesOtherConsumersWrong)

/-- 'zzlaws_internal_policy_b1.FnCoversMatchesPairwiseModel': WHATEVER THE INPUT: true; the input reads as it did. -/
def fnCoversMatchesPairwiseModelSpec : ChangeSpec := { name := "fnCoversMatchesPairwiseModel", fn := fun _ => fun
  | [d1, d2, d3] => { results := [.lit (.bool true)], args := [d1, d2, d3] }
  | _ => none }
def fnCoversMatchesPairwiseModelRow : OpenClaim := { program := "qxb6602990a", sum := "de3f7b172636b64c665216026cd599bdef81723f26e17161a5c38e73df0a8735", func := "example.com/rowan/rowan/zzlaws_internal_policy_b1.FnCoversMatchesPairwiseModel", spec := "fnCoversMatchesPairwiseModel", inPlace := ["internal/bytealg.IndexByteString", "internal/bytealg.IndexString"], recurses := true, named := ["internal/bytealg.MaxLen"], apart := false }
def FnCoversMatchesPairwiseModelSaid : Prop := fnCoversMatchesPairwiseModelRow.holds Try.pinned (OpenSpec.ofChange fnCoversMatchesPairwiseModelSpec)

/-- ITS FALSE NEIGHBOUR: 'it returns false'. Refute it at one input. -/
def fnCoversMatchesPairwiseModelWrong : ChangeSpec := { name := "fnCoversMatchesPairwiseModel", fn := fun _ => fun
  | [d1, d2, d3] => { results := [.lit (.bool false)], args := [d1, d2, d3] }
  | _ => none }
def FnCoversMatchesPairwiseModelWrongFalsely : Prop := fnCoversMatchesPairwiseModelRow.holds Try.pinned (OpenSpec.ofChange fnCoversMatchesPairwiseModelWrong)

/-- 'zzlaws_internal_policy_b1.FnCoversSingleEntryIsPartialOrder': WHATEVER THE INPUT: true; the input reads as it did. -/
def fnCoversSingleEntryIsPartialOrderSpec : ChangeSpec := { name := "fnCoversSingleEntryIsPartialOrder", fn := fun _ => fun
  | [d1, d2, d3] => { results := [.lit (.bool true)], args := [d1, d2, d3] }
  | _ => none }
def fnCoversSingleEntryIsPartialOrderRow : OpenClaim := { program := "qxb6602990a", sum := "de3f7b172636b64c665216026cd599bdef81723f26e17161a5c38e73df0a8735", func := "example.com/rowan/rowan/zzlaws_internal_policy_b1.FnCoversSingleEntryIsPartialOrder", spec := "fnCoversSingleEntryIsPartialOrder", inPlace := ["internal/bytealg.IndexByteString", "internal/bytealg.IndexString"], recurses := true, named := ["internal/bytealg.MaxLen"], apart := false }
def FnCoversSingleEntryIsPartialOrderSaid : Prop := fnCoversSingleEntryIsPartialOrderRow.holds Try.pinned (OpenSpec.ofChange fnCoversSingleEntryIsPartialOrderSpec)

/-- ITS FALSE NEIGHBOUR: 'it returns false'. Refute it at one input. -/
def fnCoversSingleEntryIsPartialOrderWrong : ChangeSpec := { name := "fnCoversSingleEntryIsPartialOrder", fn := fun _ => fun
  | [d1, d2, d3] => { results := [.lit (.bool false)], args := [d1, d2, d3] }
  | _ => none }
def FnCoversSingleEntryIsPartialOrderWrongFalsely : Prop := fnCoversSingleEntryIsPartialOrderRow.holds Try.pinned (OpenSpec.ofChange fnCoversSingleEntryIsPartialOrderWrong)

/-- 'zzlaws_internal_policy_b1.FnJsConsumeAppendsWellFormedGrants': WHATEVER THE INPUT: true; the input reads as it did. -/
def fnJsConsumeAppendsWellFormedGrantsSpec : ChangeSpec := { name := "fnJsConsumeAppendsWellFormedGrants", fn := fun _ => fun
  | [d1, d2, d3, d4, d5, d6, d7] => { results := [.lit (.bool true)], args := [d1, d2, d3, d4, d5, d6, d7] }
  | _ => none }
def fnJsConsumeAppendsWellFormedGrantsRow : OpenClaim := { program := "qxb6602990a", sum := "de3f7b172636b64c665216026cd599bdef81723f26e17161a5c38e73df0a8735", func := "example.com/rowan/rowan/zzlaws_internal_policy_b1.FnJsConsumeAppendsWellFormedGrants", spec := "fnJsConsumeAppendsWellFormedGrants", apart := false }
def FnJsConsumeAppendsWellFormedGrantsSaid : Prop := fnJsConsumeAppendsWellFormedGrantsRow.holds Try.pinned (OpenSpec.ofChange fnJsConsumeAppendsWellFormedGrantsSpec)

/-- ITS FALSE NEIGHBOUR: 'it returns false'. Refute it at one input. -/
def fnJsConsumeAppendsWellFormedGrantsWrong : ChangeSpec := { name := "fnJsConsumeAppendsWellFormedGrants", fn := fun _ => fun
  | [d1, d2, d3, d4, d5, d6, d7] => { results := [.lit (.bool false)], args := [d1, d2, d3, d4, d5, d6, d7] }
  | _ => none }
def FnJsConsumeAppendsWellFormedGrantsWrongFalsely : Prop := fnJsConsumeAppendsWellFormedGrantsRow.holds Try.pinned (OpenSpec.ofChange fnJsConsumeAppendsWellFormedGrantsWrong)

end Rows
end Go.Proofs.Qxb6602990a
