/-
  No cell of these rows narrows 'for every input' (looked for: loops, veiled, ifaces, maps, wideKeys, modest, calm, conditions, laid).
  DERIVED. THE GIVEN ROWS OF THIS SEAT. 3 by the template 'for every input the law returns true; each argument reads behind the call as it read before'; 0 by the template 'total and deterministic' (their statements: Qxb6000743aTotals.lean).
  GIVEN WITH THE SEED: the statements are not yours to turn. If you find one false, say at which input.
  Laid BY PROGRAM, IN A SANDBOX (cutbox-rows.mjs): the forced cells as the released guide's own fill.sh prints them over the translation 746fa2a16751f160… (all of the seat's roots in one cut). By AI agents, Wed Nov 11 2026. No macro, syntax, notation, axiom, sorry.
-/
import Derived.Test.Qxb6000743aChecked
import GoSem.Claim
import GoSem.ClaimJoined
import GoSem.ClaimMapViews
import Derived.JoinedTies
import Derived.KernelRfl
namespace Go.Proofs.Qxb6000743a
/- THE CELL 'sum', in the pinned program and in every row, IS THE sha256 OF THE DUMP (.gsa) THAT Qxb6000743aProg.lean LOADS. Nothing in Lean hashes anything: it is a label: what it is worth is what the hold of that sum in a sandbox is worth. -/
noncomputable def Try.pinned : Pinned := { name := "qxb6000743a", sum := "746fa2a16751f160d0765db9691d0e6bc0ce13a83b26d627ae5c67762b3b25ef", checked := Try.checked }
namespace Rows
def none {H : Type} : Left H := { results := [], args := [] }

/-- 'zzlaws_pkg_language_b1.FnQvalueRoundTrip': WHATEVER THE INPUT: true; the input reads as it did. -/
def fnQvalueRoundTripSpec : ChangeSpec := { name := "fnQvalueRoundTrip", fn := fun _ => fun
  | [d1, d2, d3] => { results := [.lit (.bool true)], args := [d1, d2, d3] }
  | _ => none }
def fnQvalueRoundTripRow : OpenClaim := { program := "qxb6000743a", sum := "746fa2a16751f160d0765db9691d0e6bc0ce13a83b26d627ae5c67762b3b25ef", func := "example.com/lintel/lintel/zzlaws_pkg_language_b1.FnQvalueRoundTrip", spec := "fnQvalueRoundTrip", inPlace := ["internal/bytealg.IndexByteString", "internal/bytealg.IndexString"], named := ["internal/bytealg.MaxLen"], apart := false }
def FnQvalueRoundTripSaid : Prop := fnQvalueRoundTripRow.holds Try.pinned (OpenSpec.ofChange fnQvalueRoundTripSpec)

/-- ITS FALSE NEIGHBOUR: 'it returns false'. Refute it at one input. -/
def fnQvalueRoundTripWrong : ChangeSpec := { name := "fnQvalueRoundTrip", fn := fun _ => fun
  | [d1, d2, d3] => { results := [.lit (.bool false)], args := [d1, d2, d3] }
  | _ => none }
def FnQvalueRoundTripWrongFalsely : Prop := fnQvalueRoundTripRow.holds Try.pinned (OpenSpec.ofChange fnQvalueRoundTripWrong)

/-- 'zzlaws_pkg_language_b1.FnQvalueAcceptedIsCanonical': WHATEVER THE INPUT: true; the input reads as it did. -/
def fnQvalueAcceptedIsCanonicalSpec : ChangeSpec := { name := "fnQvalueAcceptedIsCanonical", fn := fun _ => fun
  | [d] => { results := [.lit (.bool true)], args := [d] }
  | _ => none }
def fnQvalueAcceptedIsCanonicalRow : OpenClaim := { program := "qxb6000743a", sum := "746fa2a16751f160d0765db9691d0e6bc0ce13a83b26d627ae5c67762b3b25ef", func := "example.com/lintel/lintel/zzlaws_pkg_language_b1.FnQvalueAcceptedIsCanonical", spec := "fnQvalueAcceptedIsCanonical", inPlace := ["internal/bytealg.IndexByteString", "internal/bytealg.IndexString"], named := ["internal/bytealg.MaxLen"], apart := false }
def FnQvalueAcceptedIsCanonicalSaid : Prop := fnQvalueAcceptedIsCanonicalRow.holds Try.pinned (OpenSpec.ofChange fnQvalueAcceptedIsCanonicalSpec)

/-- ITS FALSE NEIGHBOUR: 'it returns false'. Refute it at one input. -/
def fnQvalueAcceptedIsCanonicalWrong : ChangeSpec := { name := "fnQvalueAcceptedIsCanonical", fn := fun _ => fun
  | [d] => { results := [.lit (.bool false)], args := [d] }
  | _ => none }
def FnQvalueAcceptedIsCanonicalWrongFalsely : Prop := fnQvalueAcceptedIsCanonicalRow.holds Try.pinned (OpenSpec.ofChange fnQvalueAcceptedIsCanonicalWrong)

/-- 'zzlaws_pkg_language_b1.FnQvalueOrderFollowsText': WHATEVER THE INPUT: true; the input reads as it did. -/
def fnQvalueOrderFollowsTextSpec : ChangeSpec := { name := "fnQvalueOrderFollowsText", fn := fun _ => fun
  | [d1, d2] => { results := [.lit (.bool true)], args := [d1, d2] }
  | _ => none }
def fnQvalueOrderFollowsTextRow : OpenClaim := { program := "qxb6000743a", sum := "746fa2a16751f160d0765db9691d0e6bc0ce13a83b26d627ae5c67762b3b25ef", func := "example.com/lintel/lintel/zzlaws_pkg_language_b1.FnQvalueOrderFollowsText", spec := "fnQvalueOrderFollowsText", inPlace := ["internal/bytealg.IndexByteString", "internal/bytealg.IndexString"], named := ["internal/bytealg.MaxLen"], apart := false }
def FnQvalueOrderFollowsTextSaid : Prop := fnQvalueOrderFollowsTextRow.holds Try.pinned (OpenSpec.ofChange fnQvalueOrderFollowsTextSpec)

/-- ITS FALSE NEIGHBOUR: 'it returns false'. Refute it at one input. -/
def fnQvalueOrderFollowsTextWrong : ChangeSpec := { name := "fnQvalueOrderFollowsText", fn := fun _ => fun
  | [d1, d2] => { results := [.lit (.bool false)], args := [d1, d2] }
  | _ => none }
def FnQvalueOrderFollowsTextWrongFalsely : Prop := fnQvalueOrderFollowsTextRow.holds Try.pinned (OpenSpec.ofChange fnQvalueOrderFollowsTextWrong)

end Rows
end Go.Proofs.Qxb6000743a
