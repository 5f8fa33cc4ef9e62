/-
  No cell of these rows narrows 'for every input' (looked for: loops, veiled, ifaces, maps, wideKeys, modest, calm, conditions, laid).
  DERIVED. THE GIVEN ROWS OF THIS SEAT. 6 by the template 'for every input the law returns true; each argument reads behind the call as it read before'; 0 by the template 'total and deterministic' (their statements: Qxb6001175aTotals.lean).
  GIVEN WITH THE SEED: the statements are not yours to turn. If you find one false, say at which input.
  Laid BY PROGRAM, IN A SANDBOX (cutbox-rows.mjs): the forced cells as the released guide's own fill.sh prints them over the translation 0a3f4aeb904c919b… (all of the seat's roots in one cut). By AI agents, Wed Nov 11 2026. No macro, syntax, notation, axiom, sorry.
-/
import Derived.Test.Qxb6001175aChecked
import GoSem.Claim
import GoSem.ClaimJoined
import GoSem.ClaimMapViews
import Derived.JoinedTies
import Derived.KernelRfl
namespace Go.Proofs.Qxb6001175a
/- THE CELL 'sum', in the pinned program and in every row, IS THE sha256 OF THE DUMP (.gsa) THAT Qxb6001175aProg.lean LOADS. Nothing in Lean hashes anything: it is a label: what it is worth is what the hold of that sum in a sandbox is worth. -/
noncomputable def Try.pinned : Pinned := { name := "qxb6001175a", sum := "0a3f4aeb904c919b0849c7b006c36cb416a93c6ac25ff018aa1330ce3e8e60d4", checked := Try.checked }
namespace Rows
def none {H : Type} : Left H := { results := [], args := [] }

/-- 'zzlaws_internal_policy_b1.FnUnescapeInvertsEscape': WHATEVER THE INPUT: true; the input reads as it did. -/
def fnUnescapeInvertsEscapeSpec : ChangeSpec := { name := "fnUnescapeInvertsEscape", fn := fun _ => fun
  | [d] => { results := [.lit (.bool true)], args := [d] }
  | _ => none }
def fnUnescapeInvertsEscapeRow : OpenClaim := { program := "qxb6001175a", sum := "0a3f4aeb904c919b0849c7b006c36cb416a93c6ac25ff018aa1330ce3e8e60d4", func := "example.com/signalbox/signalbox/zzlaws_internal_policy_b1.FnUnescapeInvertsEscape", spec := "fnUnescapeInvertsEscape", apart := false }
def FnUnescapeInvertsEscapeSaid : Prop := fnUnescapeInvertsEscapeRow.holds Try.pinned (OpenSpec.ofChange fnUnescapeInvertsEscapeSpec)

/-- ITS FALSE NEIGHBOUR: 'it returns false'. Refute it at one input. -/
def fnUnescapeInvertsEscapeWrong : ChangeSpec := { name := "fnUnescapeInvertsEscape", fn := fun _ => fun
  | [d] => { results := [.lit (.bool false)], args := [d] }
  | _ => none }
def FnUnescapeInvertsEscapeWrongFalsely : Prop := fnUnescapeInvertsEscapeRow.holds Try.pinned (OpenSpec.ofChange fnUnescapeInvertsEscapeWrong)

/-- 'zzlaws_internal_policy_b1.FnUnescapeAcceptsOnlyEscapes': WHATEVER THE INPUT: true; the input reads as it did. -/
def fnUnescapeAcceptsOnlyEscapesSpec : ChangeSpec := { name := "fnUnescapeAcceptsOnlyEscapes", fn := fun _ => fun
  | [d] => { results := [.lit (.bool true)], args := [d] }
  | _ => none }
def fnUnescapeAcceptsOnlyEscapesRow : OpenClaim := { program := "qxb6001175a", sum := "0a3f4aeb904c919b0849c7b006c36cb416a93c6ac25ff018aa1330ce3e8e60d4", func := "example.com/signalbox/signalbox/zzlaws_internal_policy_b1.FnUnescapeAcceptsOnlyEscapes", spec := "fnUnescapeAcceptsOnlyEscapes", apart := false }
def FnUnescapeAcceptsOnlyEscapesSaid : Prop := fnUnescapeAcceptsOnlyEscapesRow.holds Try.pinned (OpenSpec.ofChange fnUnescapeAcceptsOnlyEscapesSpec)

/-- ITS FALSE NEIGHBOUR: 'it returns false'. Refute it at one input. -/
def fnUnescapeAcceptsOnlyEscapesWrong : ChangeSpec := { name := "fnUnescapeAcceptsOnlyEscapes", fn := fun _ => fun
  | [d] => { results := [.lit (.bool false)], args := [d] }
  | _ => none }
def FnUnescapeAcceptsOnlyEscapesWrongFalsely : Prop := fnUnescapeAcceptsOnlyEscapesRow.holds Try.pinned (OpenSpec.ofChange fnUnescapeAcceptsOnlyEscapesWrong)

/-- 'zzlaws_internal_policy_b1.FnUnescapeRefusesBadTail': WHATEVER THE INPUT: true; the input reads as it did. -/
def fnUnescapeRefusesBadTailSpec : ChangeSpec := { name := "fnUnescapeRefusesBadTail", fn := fun _ => fun
  | [d1, d2] => { results := [.lit (.bool true)], args := [d1, d2] }
  | _ => none }
def fnUnescapeRefusesBadTailRow : OpenClaim := { program := "qxb6001175a", sum := "0a3f4aeb904c919b0849c7b006c36cb416a93c6ac25ff018aa1330ce3e8e60d4", func := "example.com/signalbox/signalbox/zzlaws_internal_policy_b1.FnUnescapeRefusesBadTail", spec := "fnUnescapeRefusesBadTail", apart := false }
def FnUnescapeRefusesBadTailSaid : Prop := fnUnescapeRefusesBadTailRow.holds Try.pinned (OpenSpec.ofChange fnUnescapeRefusesBadTailSpec)

/-- ITS FALSE NEIGHBOUR: 'it returns false'. Refute it at one input. -/
def fnUnescapeRefusesBadTailWrong : ChangeSpec := { name := "fnUnescapeRefusesBadTail", fn := fun _ => fun
  | [d1, d2] => { results := [.lit (.bool false)], args := [d1, d2] }
  | _ => none }
def FnUnescapeRefusesBadTailWrongFalsely : Prop := fnUnescapeRefusesBadTailRow.holds Try.pinned (OpenSpec.ofChange fnUnescapeRefusesBadTailWrong)

/-- 'zzlaws_internal_policy_b1.FnFieldRequirementTwoRequirements': WHATEVER THE INPUT: true; the input reads as it did. -/
def fnFieldRequirementTwoRequirementsSpec : ChangeSpec := { name := "fnFieldRequirementTwoRequirements", fn := fun _ => fun
  | [d1, d2, d3, d4, d5, d6, d7] => { results := [.lit (.bool true)], args := [d1, d2, d3, d4, d5, d6, d7] }
  | _ => none }
def fnFieldRequirementTwoRequirementsRow : OpenClaim := { program := "qxb6001175a", sum := "0a3f4aeb904c919b0849c7b006c36cb416a93c6ac25ff018aa1330ce3e8e60d4", func := "example.com/signalbox/signalbox/zzlaws_internal_policy_b1.FnFieldRequirementTwoRequirements", spec := "fnFieldRequirementTwoRequirements", inPlace := ["internal/bytealg.IndexByteString"], recurses := true, apart := false }
def FnFieldRequirementTwoRequirementsSaid : Prop := fnFieldRequirementTwoRequirementsRow.holds Try.pinned (OpenSpec.ofChange fnFieldRequirementTwoRequirementsSpec)

/-- ITS FALSE NEIGHBOUR: 'it returns false'. Refute it at one input. -/
def fnFieldRequirementTwoRequirementsWrong : ChangeSpec := { name := "fnFieldRequirementTwoRequirements", fn := fun _ => fun
  | [d1, d2, d3, d4, d5, d6, d7] => { results := [.lit (.bool false)], args := [d1, d2, d3, d4, d5, d6, d7] }
  | _ => none }
def FnFieldRequirementTwoRequirementsWrongFalsely : Prop := fnFieldRequirementTwoRequirementsRow.holds Try.pinned (OpenSpec.ofChange fnFieldRequirementTwoRequirementsWrong)

/-- 'zzlaws_internal_policy_b1.FnFieldRequirementOrderFree': WHATEVER THE INPUT: true; the input reads as it did. -/
def fnFieldRequirementOrderFreeSpec : ChangeSpec := { name := "fnFieldRequirementOrderFree", fn := fun _ => fun
  | [d1, d2, d3] => { results := [.lit (.bool true)], args := [d1, d2, d3] }
  | _ => none }
def fnFieldRequirementOrderFreeRow : OpenClaim := { program := "qxb6001175a", sum := "0a3f4aeb904c919b0849c7b006c36cb416a93c6ac25ff018aa1330ce3e8e60d4", func := "example.com/signalbox/signalbox/zzlaws_internal_policy_b1.FnFieldRequirementOrderFree", spec := "fnFieldRequirementOrderFree", inPlace := ["internal/bytealg.IndexByteString"], recurses := true, apart := false }
def FnFieldRequirementOrderFreeSaid : Prop := fnFieldRequirementOrderFreeRow.holds Try.pinned (OpenSpec.ofChange fnFieldRequirementOrderFreeSpec)

/-- ITS FALSE NEIGHBOUR: 'it returns false'. Refute it at one input. -/
def fnFieldRequirementOrderFreeWrong : ChangeSpec := { name := "fnFieldRequirementOrderFree", fn := fun _ => fun
  | [d1, d2, d3] => { results := [.lit (.bool false)], args := [d1, d2, d3] }
  | _ => none }
def FnFieldRequirementOrderFreeWrongFalsely : Prop := fnFieldRequirementOrderFreeRow.holds Try.pinned (OpenSpec.ofChange fnFieldRequirementOrderFreeWrong)

/-- 'zzlaws_internal_policy_b1.FnFieldRequirementBrokenRequirementRequiresNothing': WHATEVER THE INPUT: true; the input reads as it did. -/
def fnFieldRequirementBrokenRequirementRequiresNothingSpec : ChangeSpec := { name := "fnFieldRequirementBrokenRequirementRequiresNothing", fn := fun _ => fun
  | [d1, d2, d3] => { results := [.lit (.bool true)], args := [d1, d2, d3] }
  | _ => none }
def fnFieldRequirementBrokenRequirementRequiresNothingRow : OpenClaim := { program := "qxb6001175a", sum := "0a3f4aeb904c919b0849c7b006c36cb416a93c6ac25ff018aa1330ce3e8e60d4", func := "example.com/signalbox/signalbox/zzlaws_internal_policy_b1.FnFieldRequirementBrokenRequirementRequiresNothing", spec := "fnFieldRequirementBrokenRequirementRequiresNothing", inPlace := ["internal/bytealg.IndexByteString"], recurses := true, apart := false }
def FnFieldRequirementBrokenRequirementRequiresNothingSaid : Prop := fnFieldRequirementBrokenRequirementRequiresNothingRow.holds Try.pinned (OpenSpec.ofChange fnFieldRequirementBrokenRequirementRequiresNothingSpec)

/-- ITS FALSE NEIGHBOUR: 'it returns false'. Refute it at one input. -/
def fnFieldRequirementBrokenRequirementRequiresNothingWrong : ChangeSpec := { name := "fnFieldRequirementBrokenRequirementRequiresNothing", fn := fun _ => fun
  | [d1, d2, d3] => { results := [.lit (.bool false)], args := [d1, d2, d3] }
  | _ => none }
def FnFieldRequirementBrokenRequirementRequiresNothingWrongFalsely : Prop := fnFieldRequirementBrokenRequirementRequiresNothingRow.holds Try.pinned (OpenSpec.ofChange fnFieldRequirementBrokenRequirementRequiresNothingWrong)

end Rows
end Go.Proofs.Qxb6001175a
