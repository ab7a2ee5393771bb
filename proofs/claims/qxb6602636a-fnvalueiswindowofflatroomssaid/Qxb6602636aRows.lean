/-
  No cell of these rows narrows 'for every input' (looked for: loops, veiled, ifaces, maps, wideKeys, modest, calm, conditions, laid).
  DERIVED. THE GIVEN ROWS OF THIS SEAT. 4 by the template 'for every input the law returns true; each argument reads behind the call as it read before'; 0 by the template 'total and deterministic' (their statements: Qxb6602636aTotals.lean).
  GIVEN WITH THE SEED: the statements are not yours to turn. If you find one false, say at which input.
  Laid BY PROGRAM, IN A SANDBOX (cutbox-rows.mjs): the forced cells as the released guide's own fill.sh prints them over the translation e79d125b801c0e5b… (all of the seat's roots in one cut). By AI agents, Wed Nov 11 2026. No macro, syntax, notation, axiom, sorry.
-/
import Derived.Test.Qxb6602636aChecked
import GoSem.Claim
import GoSem.ClaimJoined
import GoSem.ClaimMapViews
import Derived.JoinedTies
import Derived.KernelRfl
namespace Go.Proofs.Qxb6602636a
/- THE CELL 'sum', in the pinned program and in every row, IS THE sha256 OF THE DUMP (.gsa) THAT Qxb6602636aProg.lean LOADS. Nothing in Lean hashes anything: it is a label: what it is worth is what the hold of that sum in a sandbox is worth. -/
noncomputable def Try.pinned : Pinned := { name := "qxb6602636a", sum := "e79d125b801c0e5b05b86ff97db837d83201881da541df108459f193a7c06f26", checked := Try.checked }
namespace Rows
def none {H : Type} : Left H := { results := [], args := [] }

/-- 'zzlaws_fountain_b1.FnSymbolCellsFreshZeroed': WHATEVER THE INPUT: true; the input reads as it did. -/
def fnSymbolCellsFreshZeroedSpec : ChangeSpec := { name := "fnSymbolCellsFreshZeroed", fn := fun _ => fun
  | [d1, d2] => { results := [.lit (.bool true)], args := [d1, d2] }
  | _ => none }
def fnSymbolCellsFreshZeroedRow : OpenClaim := { program := "qxb6602636a", sum := "e79d125b801c0e5b05b86ff97db837d83201881da541df108459f193a7c06f26", func := "example.com/ferryline/ferryline/zzlaws_fountain_b1.FnSymbolCellsFreshZeroed", spec := "fnSymbolCellsFreshZeroed", apart := false }
def FnSymbolCellsFreshZeroedSaid : Prop := fnSymbolCellsFreshZeroedRow.holds Try.pinned (OpenSpec.ofChange fnSymbolCellsFreshZeroedSpec)

/-- ITS FALSE NEIGHBOUR: 'it returns false'. Refute it at one input. -/
def fnSymbolCellsFreshZeroedWrong : ChangeSpec := { name := "fnSymbolCellsFreshZeroed", fn := fun _ => fun
  | [d1, d2] => { results := [.lit (.bool false)], args := [d1, d2] }
  | _ => none }
def FnSymbolCellsFreshZeroedWrongFalsely : Prop := fnSymbolCellsFreshZeroedRow.holds Try.pinned (OpenSpec.ofChange fnSymbolCellsFreshZeroedWrong)

/-- 'zzlaws_fountain_b1.FnSymbolCellsCellsIndependent': WHATEVER THE INPUT: true; the input reads as it did. -/
def fnSymbolCellsCellsIndependentSpec : ChangeSpec := { name := "fnSymbolCellsCellsIndependent", fn := fun _ => fun
  | [d1, d2] => { results := [.lit (.bool true)], args := [d1, d2] }
  | _ => none }
def fnSymbolCellsCellsIndependentRow : OpenClaim := { program := "qxb6602636a", sum := "e79d125b801c0e5b05b86ff97db837d83201881da541df108459f193a7c06f26", func := "example.com/ferryline/ferryline/zzlaws_fountain_b1.FnSymbolCellsCellsIndependent", spec := "fnSymbolCellsCellsIndependent", apart := false }
def FnSymbolCellsCellsIndependentSaid : Prop := fnSymbolCellsCellsIndependentRow.holds Try.pinned (OpenSpec.ofChange fnSymbolCellsCellsIndependentSpec)

/-- ITS FALSE NEIGHBOUR: 'it returns false'. Refute it at one input. -/
def fnSymbolCellsCellsIndependentWrong : ChangeSpec := { name := "fnSymbolCellsCellsIndependent", fn := fun _ => fun
  | [d1, d2] => { results := [.lit (.bool false)], args := [d1, d2] }
  | _ => none }
def FnSymbolCellsCellsIndependentWrongFalsely : Prop := fnSymbolCellsCellsIndependentRow.holds Try.pinned (OpenSpec.ofChange fnSymbolCellsCellsIndependentWrong)

/-- 'zzlaws_fountain_b1.FnValueIsWindowOfFlatRooms': WHATEVER THE INPUT: true; the input reads as it did. -/
def fnValueIsWindowOfFlatRoomsSpec : ChangeSpec := { name := "fnValueIsWindowOfFlatRooms", fn := fun _ => fun
  | [d1, d2, d3, d4, d5] => { results := [.lit (.bool true)], args := [d1, d2, d3, d4, d5] }
  | _ => none }
def fnValueIsWindowOfFlatRoomsRow : OpenClaim := { program := "qxb6602636a", sum := "e79d125b801c0e5b05b86ff97db837d83201881da541df108459f193a7c06f26", func := "example.com/ferryline/ferryline/zzlaws_fountain_b1.FnValueIsWindowOfFlatRooms", spec := "fnValueIsWindowOfFlatRooms", apart := false }
def FnValueIsWindowOfFlatRoomsSaid : Prop := fnValueIsWindowOfFlatRoomsRow.holds Try.pinned (OpenSpec.ofChange fnValueIsWindowOfFlatRoomsSpec)

/-- ITS FALSE NEIGHBOUR: 'it returns false'. Refute it at one input. -/
def fnValueIsWindowOfFlatRoomsWrong : ChangeSpec := { name := "fnValueIsWindowOfFlatRooms", fn := fun _ => fun
  | [d1, d2, d3, d4, d5] => { results := [.lit (.bool false)], args := [d1, d2, d3, d4, d5] }
  | _ => none }
def FnValueIsWindowOfFlatRoomsWrongFalsely : Prop := fnValueIsWindowOfFlatRoomsRow.holds Try.pinned (OpenSpec.ofChange fnValueIsWindowOfFlatRoomsWrong)

/-- 'zzlaws_fountain_b1.FnValueRowsTileRooms': WHATEVER THE INPUT: true; the input reads as it did. -/
def fnValueRowsTileRoomsSpec : ChangeSpec := { name := "fnValueRowsTileRooms", fn := fun _ => fun
  | [d1, d2, d3, d4] => { results := [.lit (.bool true)], args := [d1, d2, d3, d4] }
  | _ => none }
def fnValueRowsTileRoomsRow : OpenClaim := { program := "qxb6602636a", sum := "e79d125b801c0e5b05b86ff97db837d83201881da541df108459f193a7c06f26", func := "example.com/ferryline/ferryline/zzlaws_fountain_b1.FnValueRowsTileRooms", spec := "fnValueRowsTileRooms", apart := false }
def FnValueRowsTileRoomsSaid : Prop := fnValueRowsTileRoomsRow.holds Try.pinned (OpenSpec.ofChange fnValueRowsTileRoomsSpec)

/-- ITS FALSE NEIGHBOUR: 'it returns false'. Refute it at one input. -/
def fnValueRowsTileRoomsWrong : ChangeSpec := { name := "fnValueRowsTileRooms", fn := fun _ => fun
  | [d1, d2, d3, d4] => { results := [.lit (.bool false)], args := [d1, d2, d3, d4] }
  | _ => none }
def FnValueRowsTileRoomsWrongFalsely : Prop := fnValueRowsTileRoomsRow.holds Try.pinned (OpenSpec.ofChange fnValueRowsTileRoomsWrong)

end Rows
end Go.Proofs.Qxb6602636a
