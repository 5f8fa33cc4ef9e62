/-
  DERIVED. GIVEN WITH THE SEED: THE CARDS: each row of Qxb6000929aDoorRows.lean that lists a variable, with what it lists TIED to the program's text (the seventh form; the later family's looks); each row that meets fmt, with fmt's text TOLD by the authors' own Lean function (tested against real Go, not proved from fmt's source: count such statements apart). THE CARD IS WHAT COUNTS. Prove the row's statement (the work); the ties are given (Qxb6000929aDoorTie.lean); close each card by the builder's one call (the guide's Derived/Test/ToyasCard.lean, 'card_holds'). Laid BY PROGRAM, IN A SANDBOX (cutbox-door.mjs). By AI agents, Wed Nov 11 2026. No macro, syntax, notation, axiom, sorry.
-/
import Derived.Test.Qxb6000929aDoorRows
import GoSem.ClaimSeven
namespace Go.Proofs.Qxb6000929aDoor
namespace Rows

/-- THE TIED CARD OF 'zzlaws_internal_tpcc_b1.FnCustomerEncodeDecodesBack'. -/
def fnCustomerEncodeDecodesBackCard : Claim7 := { stood := { row := fnCustomerEncodeDecodesBackRow, standIns := [], harness := (true, "93f332deed31c7c5c1c890966e769028009eca82441e609c38517bb2b51e7f35"), looks := false }, kinds := [], alts := [], laidByText := true, laidKinds := [.data, .data, .data], laidTests := true, laidLooks := .later }
def FnCustomerEncodeDecodesBackCardSaid : Prop := Claim7.holds Tryd.pinned (.plain (OpenSpec.ofChange fnCustomerEncodeDecodesBackSpec)) fnCustomerEncodeDecodesBackCard

/-- THE TIED CARD OF 'zzlaws_internal_tpcc_b1.FnCustomerEncodeFramesColumns'. -/
def fnCustomerEncodeFramesColumnsCard : Claim7 := { stood := { row := fnCustomerEncodeFramesColumnsRow, standIns := [], harness := (true, "93f332deed31c7c5c1c890966e769028009eca82441e609c38517bb2b51e7f35"), looks := false }, kinds := [], alts := [], laidByText := true, laidKinds := [.data, .data, .data], laidTests := true, laidLooks := .later }
def FnCustomerEncodeFramesColumnsCardSaid : Prop := Claim7.holds Tryd.pinned (.plain (OpenSpec.ofChange fnCustomerEncodeFramesColumnsSpec)) fnCustomerEncodeFramesColumnsCard

/-- THE TIED CARD OF 'zzlaws_internal_tpcc_b1.FnStockEncodeDecodesBack'. -/
def fnStockEncodeDecodesBackCard : Claim7 := { stood := { row := fnStockEncodeDecodesBackRow, standIns := [], harness := (true, "93f332deed31c7c5c1c890966e769028009eca82441e609c38517bb2b51e7f35"), looks := false }, kinds := [], alts := [], laidByText := true, laidKinds := [.data, .data, .data], laidTests := true, laidLooks := .later }
def FnStockEncodeDecodesBackCardSaid : Prop := Claim7.holds Tryd.pinned (.plain (OpenSpec.ofChange fnStockEncodeDecodesBackSpec)) fnStockEncodeDecodesBackCard

/-- THE TIED CARD OF 'zzlaws_internal_tpcc_b1.FnStockEncodeFramesColumns'. -/
def fnStockEncodeFramesColumnsCard : Claim7 := { stood := { row := fnStockEncodeFramesColumnsRow, standIns := [], harness := (true, "93f332deed31c7c5c1c890966e769028009eca82441e609c38517bb2b51e7f35"), looks := false }, kinds := [], alts := [], laidByText := true, laidKinds := [.data, .data, .data], laidTests := true, laidLooks := .later }
def FnStockEncodeFramesColumnsCardSaid : Prop := Claim7.holds Tryd.pinned (.plain (OpenSpec.ofChange fnStockEncodeFramesColumnsSpec)) fnStockEncodeFramesColumnsCard
end Rows
end Go.Proofs.Qxb6000929aDoor
