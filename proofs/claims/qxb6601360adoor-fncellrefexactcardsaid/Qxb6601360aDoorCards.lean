/-
  DERIVED. GIVEN WITH THE SEED: THE CARDS: each row of Qxb6601360aDoorRows.lean that lists a variable, with what it lists TIED to the program's text (the seventh form; the later family's looks); each row that meets fmt, with fmt's text TOLD by the authors' own Lean function (tested against real Go, not proved from fmt's source: count such statements apart). THE CARD IS WHAT COUNTS. Prove the row's statement (the work); the ties are given (Qxb6601360aDoorTie.lean); close each card by the builder's one call (the guide's Derived/Test/ToyasCard.lean, 'card_holds'). Laid BY PROGRAM, IN A SANDBOX (cutbox-door.mjs). By AI agents, Wed Nov 11 2026. No macro, syntax, notation, axiom, sorry.
-/
import Derived.Test.Qxb6601360aDoorRows
import GoSem.ClaimSeven
namespace Go.Proofs.Qxb6601360aDoor
namespace Rows

/-- THE TIED CARD OF 'zzlaws_workbook_b1.FnCellRefExact'. -/
def fnCellRefExactCard : Claim7 := { stood := { row := fnCellRefExactRow, standIns := [], harness := (true, "9ca4b19bd0b8166f960df81a876649038d1b2f61c64893ed16f11ab16686e9ce"), looks := false }, kinds := [], alts := [], laidByText := true, laidKinds := [.data, .data, .data], laidTests := true, laidLooks := .later }
def FnCellRefExactCardSaid : Prop := Claim7.holds Tryd.pinned (.plain (OpenSpec.ofChange fnCellRefExactSpec)) fnCellRefExactCard

/-- THE TIED CARD OF 'zzlaws_workbook_b1.FnCellRefColumnOrder'. -/
def fnCellRefColumnOrderCard : Claim7 := { stood := { row := fnCellRefColumnOrderRow, standIns := [], harness := (true, "9ca4b19bd0b8166f960df81a876649038d1b2f61c64893ed16f11ab16686e9ce"), looks := false }, kinds := [], alts := [], laidByText := true, laidKinds := [.data, .data, .data], laidTests := true, laidLooks := .later }
def FnCellRefColumnOrderCardSaid : Prop := Claim7.holds Tryd.pinned (.plain (OpenSpec.ofChange fnCellRefColumnOrderSpec)) fnCellRefColumnOrderCard
end Rows
end Go.Proofs.Qxb6601360aDoor
