/-
  No cell of these rows narrows 'for every input' (looked for: loops, veiled, ifaces, maps, wideKeys, modest, calm, conditions, laid).
  DERIVED. THE GIVEN ROWS OF THIS SEAT. 5 by the template 'for every input the law returns true; each argument reads behind the call as it read before'; 0 by the template 'total and deterministic' (their statements: Qxb6601511aTotals.lean).
  GIVEN WITH THE SEED: the statements are not yours to turn. If you find one false, say at which input.
  Laid BY PROGRAM, IN A SANDBOX (cutbox-rows.mjs): the forced cells as the released guide's own fill.sh prints them over the translation fde87a74144d9a43… (all of the seat's roots in one cut). By AI agents, Wed Nov 11 2026. No macro, syntax, notation, axiom, sorry.
-/
import Derived.Test.Qxb6601511aChecked
import GoSem.Claim
import GoSem.ClaimJoined
import GoSem.ClaimMapViews
import Derived.JoinedTies
import Derived.KernelRfl
namespace Go.Proofs.Qxb6601511a
/- THE CELL 'sum', in the pinned program and in every row, IS THE sha256 OF THE DUMP (.gsa) THAT Qxb6601511aProg.lean LOADS. Nothing in Lean hashes anything: it is a label: what it is worth is what the hold of that sum in a sandbox is worth. -/
noncomputable def Try.pinned : Pinned := { name := "qxb6601511a", sum := "fde87a74144d9a43f91a0a428b6bed58c2a3c3890a556f40c3be8b6e2ba1372e", checked := Try.checked }
namespace Rows
def none {H : Type} : Left H := { results := [], args := [] }

/-- 'zzlaws_root_b1.FnAfterCountsEntriesNotLater': WHATEVER THE INPUT: true; the input reads as it did. -/
def fnAfterCountsEntriesNotLaterSpec : ChangeSpec := { name := "fnAfterCountsEntriesNotLater", fn := fun _ => fun
  | [d1, d2, d3, d4, d5, d6] => { results := [.lit (.bool true)], args := [d1, d2, d3, d4, d5, d6] }
  | _ => none }
def fnAfterCountsEntriesNotLaterRow : OpenClaim := { program := "qxb6601511a", sum := "fde87a74144d9a43f91a0a428b6bed58c2a3c3890a556f40c3be8b6e2ba1372e", func := "example.com/rideau/rideau/zzlaws_root_b1.FnAfterCountsEntriesNotLater", spec := "fnAfterCountsEntriesNotLater", apart := false }
def FnAfterCountsEntriesNotLaterSaid : Prop := fnAfterCountsEntriesNotLaterRow.holds Try.pinned (OpenSpec.ofChange fnAfterCountsEntriesNotLaterSpec)

/-- ITS FALSE NEIGHBOUR: 'it returns false'. Refute it at one input. -/
def fnAfterCountsEntriesNotLaterWrong : ChangeSpec := { name := "fnAfterCountsEntriesNotLater", fn := fun _ => fun
  | [d1, d2, d3, d4, d5, d6] => { results := [.lit (.bool false)], args := [d1, d2, d3, d4, d5, d6] }
  | _ => none }
def FnAfterCountsEntriesNotLaterWrongFalsely : Prop := fnAfterCountsEntriesNotLaterRow.holds Try.pinned (OpenSpec.ofChange fnAfterCountsEntriesNotLaterWrong)

/-- 'zzlaws_root_b1.FnAfterLandsOnBoundary': WHATEVER THE INPUT: true; the input reads as it did. -/
def fnAfterLandsOnBoundarySpec : ChangeSpec := { name := "fnAfterLandsOnBoundary", fn := fun _ => fun
  | [d1, d2, d3, d4, d5, d6] => { results := [.lit (.bool true)], args := [d1, d2, d3, d4, d5, d6] }
  | _ => none }
def fnAfterLandsOnBoundaryRow : OpenClaim := { program := "qxb6601511a", sum := "fde87a74144d9a43f91a0a428b6bed58c2a3c3890a556f40c3be8b6e2ba1372e", func := "example.com/rideau/rideau/zzlaws_root_b1.FnAfterLandsOnBoundary", spec := "fnAfterLandsOnBoundary", apart := false }
def FnAfterLandsOnBoundarySaid : Prop := fnAfterLandsOnBoundaryRow.holds Try.pinned (OpenSpec.ofChange fnAfterLandsOnBoundarySpec)

/-- ITS FALSE NEIGHBOUR: 'it returns false'. Refute it at one input. -/
def fnAfterLandsOnBoundaryWrong : ChangeSpec := { name := "fnAfterLandsOnBoundary", fn := fun _ => fun
  | [d1, d2, d3, d4, d5, d6] => { results := [.lit (.bool false)], args := [d1, d2, d3, d4, d5, d6] }
  | _ => none }
def FnAfterLandsOnBoundaryWrongFalsely : Prop := fnAfterLandsOnBoundaryRow.holds Try.pinned (OpenSpec.ofChange fnAfterLandsOnBoundaryWrong)

/-- 'zzlaws_root_b1.FnInsertPlacesEntryExactly': WHATEVER THE INPUT: true; the input reads as it did. -/
def fnInsertPlacesEntryExactlySpec : ChangeSpec := { name := "fnInsertPlacesEntryExactly", fn := fun _ => fun
  | [d1, d2, d3, d4, d5, d6, d7, d8, d9, d10, d11, d12] => { results := [.lit (.bool true)], args := [d1, d2, d3, d4, d5, d6, d7, d8, d9, d10, d11, d12] }
  | _ => none }
def fnInsertPlacesEntryExactlyRow : OpenClaim := { program := "qxb6601511a", sum := "fde87a74144d9a43f91a0a428b6bed58c2a3c3890a556f40c3be8b6e2ba1372e", func := "example.com/rideau/rideau/zzlaws_root_b1.FnInsertPlacesEntryExactly", spec := "fnInsertPlacesEntryExactly", apart := false }
def FnInsertPlacesEntryExactlySaid : Prop := fnInsertPlacesEntryExactlyRow.holds Try.pinned (OpenSpec.ofChange fnInsertPlacesEntryExactlySpec)

/-- ITS FALSE NEIGHBOUR: 'it returns false'. Refute it at one input. -/
def fnInsertPlacesEntryExactlyWrong : ChangeSpec := { name := "fnInsertPlacesEntryExactly", fn := fun _ => fun
  | [d1, d2, d3, d4, d5, d6, d7, d8, d9, d10, d11, d12] => { results := [.lit (.bool false)], args := [d1, d2, d3, d4, d5, d6, d7, d8, d9, d10, d11, d12] }
  | _ => none }
def FnInsertPlacesEntryExactlyWrongFalsely : Prop := fnInsertPlacesEntryExactlyRow.holds Try.pinned (OpenSpec.ofChange fnInsertPlacesEntryExactlyWrong)

/-- 'zzlaws_root_b1.FnInsertAtAfterSortsStablyAndBoundsCapacity': WHATEVER THE INPUT: true; the input reads as it did. -/
def fnInsertAtAfterSortsStablyAndBoundsCapacitySpec : ChangeSpec := { name := "fnInsertAtAfterSortsStablyAndBoundsCapacity", fn := fun _ => fun
  | [d1, d2, d3] => { results := [.lit (.bool true)], args := [d1, d2, d3] }
  | _ => none }
def fnInsertAtAfterSortsStablyAndBoundsCapacityRow : OpenClaim := { program := "qxb6601511a", sum := "fde87a74144d9a43f91a0a428b6bed58c2a3c3890a556f40c3be8b6e2ba1372e", func := "example.com/rideau/rideau/zzlaws_root_b1.FnInsertAtAfterSortsStablyAndBoundsCapacity", spec := "fnInsertAtAfterSortsStablyAndBoundsCapacity", apart := false }
def FnInsertAtAfterSortsStablyAndBoundsCapacitySaid : Prop := fnInsertAtAfterSortsStablyAndBoundsCapacityRow.holds Try.pinned (OpenSpec.ofChange fnInsertAtAfterSortsStablyAndBoundsCapacitySpec)

/-- ITS FALSE NEIGHBOUR: 'it returns false'. Refute it at one input. -/
def fnInsertAtAfterSortsStablyAndBoundsCapacityWrong : ChangeSpec := { name := "fnInsertAtAfterSortsStablyAndBoundsCapacity", fn := fun _ => fun
  | [d1, d2, d3] => { results := [.lit (.bool false)], args := [d1, d2, d3] }
  | _ => none }
def FnInsertAtAfterSortsStablyAndBoundsCapacityWrongFalsely : Prop := fnInsertAtAfterSortsStablyAndBoundsCapacityRow.holds Try.pinned (OpenSpec.ofChange fnInsertAtAfterSortsStablyAndBoundsCapacityWrong)

/-- 'zzlaws_root_b1.FnHalveKeepsEveryLookup': WHATEVER THE INPUT: true; the input reads as it did. -/
def fnHalveKeepsEveryLookupSpec : ChangeSpec := { name := "fnHalveKeepsEveryLookup", fn := fun _ => fun
  | [d1, d2, d3, d4, d5, d6, d7, d8, d9] => { results := [.lit (.bool true)], args := [d1, d2, d3, d4, d5, d6, d7, d8, d9] }
  | _ => none }
def fnHalveKeepsEveryLookupRow : OpenClaim := { program := "qxb6601511a", sum := "fde87a74144d9a43f91a0a428b6bed58c2a3c3890a556f40c3be8b6e2ba1372e", func := "example.com/rideau/rideau/zzlaws_root_b1.FnHalveKeepsEveryLookup", spec := "fnHalveKeepsEveryLookup", apart := false }
def FnHalveKeepsEveryLookupSaid : Prop := fnHalveKeepsEveryLookupRow.holds Try.pinned (OpenSpec.ofChange fnHalveKeepsEveryLookupSpec)

/-- ITS FALSE NEIGHBOUR: 'it returns false'. Refute it at one input. -/
def fnHalveKeepsEveryLookupWrong : ChangeSpec := { name := "fnHalveKeepsEveryLookup", fn := fun _ => fun
  | [d1, d2, d3, d4, d5, d6, d7, d8, d9] => { results := [.lit (.bool false)], args := [d1, d2, d3, d4, d5, d6, d7, d8, d9] }
  | _ => none }
def FnHalveKeepsEveryLookupWrongFalsely : Prop := fnHalveKeepsEveryLookupRow.holds Try.pinned (OpenSpec.ofChange fnHalveKeepsEveryLookupWrong)

end Rows
end Go.Proofs.Qxb6601511a
