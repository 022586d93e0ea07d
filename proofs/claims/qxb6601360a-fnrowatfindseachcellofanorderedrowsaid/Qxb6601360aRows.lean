/-
  No cell of these rows narrows 'for every input' (looked for: loops, veiled, ifaces, maps, wideKeys, modest, calm, conditions, laid).
  DERIVED. THE GIVEN ROWS OF THIS SEAT. 2 by the template 'for every input the law returns true; each argument reads behind the call as it read before'; 0 by the template 'total and deterministic' (their statements: Qxb6601360aTotals.lean).
  GIVEN WITH THE SEED: the statements are not yours to turn. If you find one false, say at which input.
  Laid BY PROGRAM, IN A SANDBOX (cutbox-rows.mjs): the forced cells as the released guide's own fill.sh prints them over the translation 4bf236cc19cd8c7f… (all of the seat's roots in one cut). By AI agents, Wed Nov 11 2026. No macro, syntax, notation, axiom, sorry.
-/
import Derived.Test.Qxb6601360aChecked
import GoSem.Claim
import GoSem.ClaimJoined
import GoSem.ClaimMapViews
import Derived.JoinedTies
import Derived.KernelRfl
namespace Go.Proofs.Qxb6601360a
/- THE CELL 'sum', in the pinned program and in every row, IS THE sha256 OF THE DUMP (.gsa) THAT Qxb6601360aProg.lean LOADS. Nothing in Lean hashes anything: it is a label: what it is worth is what the hold of that sum in a sandbox is worth. -/
noncomputable def Try.pinned : Pinned := { name := "qxb6601360a", sum := "4bf236cc19cd8c7f4d824468a7898f40582aae5bc96435a7e3dcd2cba1d03eb6", checked := Try.checked }
namespace Rows
def none {H : Type} : Left H := { results := [], args := [] }

/-- 'zzlaws_workbook_b1.FnRowAtFindsEachCellOfAnOrderedRow': WHATEVER THE INPUT: true; the input reads as it did. -/
def fnRowAtFindsEachCellOfAnOrderedRowSpec : ChangeSpec := { name := "fnRowAtFindsEachCellOfAnOrderedRow", fn := fun _ => fun
  | [d1, d2, d3] => { results := [.lit (.bool true)], args := [d1, d2, d3] }
  | _ => none }
def fnRowAtFindsEachCellOfAnOrderedRowRow : OpenClaim := { program := "qxb6601360a", sum := "4bf236cc19cd8c7f4d824468a7898f40582aae5bc96435a7e3dcd2cba1d03eb6", func := "example.com/trustward/trustward/zzlaws_workbook_b1.FnRowAtFindsEachCellOfAnOrderedRow", spec := "fnRowAtFindsEachCellOfAnOrderedRow", apart := false }
def FnRowAtFindsEachCellOfAnOrderedRowSaid : Prop := fnRowAtFindsEachCellOfAnOrderedRowRow.holds Try.pinned (OpenSpec.ofChange fnRowAtFindsEachCellOfAnOrderedRowSpec)

/-- ITS FALSE NEIGHBOUR: 'it returns false'. Refute it at one input. -/
def fnRowAtFindsEachCellOfAnOrderedRowWrong : ChangeSpec := { name := "fnRowAtFindsEachCellOfAnOrderedRow", fn := fun _ => fun
  | [d1, d2, d3] => { results := [.lit (.bool false)], args := [d1, d2, d3] }
  | _ => none }
def FnRowAtFindsEachCellOfAnOrderedRowWrongFalsely : Prop := fnRowAtFindsEachCellOfAnOrderedRowRow.holds Try.pinned (OpenSpec.ofChange fnRowAtFindsEachCellOfAnOrderedRowWrong)

/-- 'zzlaws_workbook_b1.FnTextStringSplitsAtAnyRun': WHATEVER THE INPUT: true; the input reads as it did. -/
def fnTextStringSplitsAtAnyRunSpec : ChangeSpec := { name := "fnTextStringSplitsAtAnyRun", fn := fun _ => fun
  | [d1, d2, d3] => { results := [.lit (.bool true)], args := [d1, d2, d3] }
  | _ => none }
def fnTextStringSplitsAtAnyRunRow : OpenClaim := { program := "qxb6601360a", sum := "4bf236cc19cd8c7f4d824468a7898f40582aae5bc96435a7e3dcd2cba1d03eb6", func := "example.com/trustward/trustward/zzlaws_workbook_b1.FnTextStringSplitsAtAnyRun", spec := "fnTextStringSplitsAtAnyRun", inPlace := ["internal/abi.NoEscape"], apart := false }
def FnTextStringSplitsAtAnyRunSaid : Prop := fnTextStringSplitsAtAnyRunRow.holds Try.pinned (OpenSpec.ofChange fnTextStringSplitsAtAnyRunSpec)

/-- ITS FALSE NEIGHBOUR: 'it returns false'. Refute it at one input. -/
def fnTextStringSplitsAtAnyRunWrong : ChangeSpec := { name := "fnTextStringSplitsAtAnyRun", fn := fun _ => fun
  | [d1, d2, d3] => { results := [.lit (.bool false)], args := [d1, d2, d3] }
  | _ => none }
def FnTextStringSplitsAtAnyRunWrongFalsely : Prop := fnTextStringSplitsAtAnyRunRow.holds Try.pinned (OpenSpec.ofChange fnTextStringSplitsAtAnyRunWrong)

end Rows
end Go.Proofs.Qxb6601360a
