/-
  No cell of these rows narrows 'for every input' (looked for: loops, veiled, ifaces, maps, wideKeys, modest, calm, conditions, laid).
  DERIVED. THE GIVEN ROWS OF THIS SEAT. 3 by the template 'for every input the law returns true; each argument reads behind the call as it read before'; 0 by the template 'total and deterministic' (their statements: Qxb6612485aTotals.lean).
  GIVEN WITH THE SEED: the statements are not yours to turn. If you find one false, say at which input.
  Laid BY PROGRAM, IN A SANDBOX (cutbox-rows.mjs): the forced cells as the released guide's own fill.sh prints them over the translation f134c559c2219354… (all of the seat's roots in one cut). By AI agents, Wed Nov 11 2026. No macro, syntax, notation, axiom, sorry.
-/
import Derived.Test.Qxb6612485aChecked
import GoSem.Claim
import GoSem.ClaimJoined
import GoSem.ClaimMapViews
import Derived.JoinedTies
import Derived.KernelRfl
namespace Go.Proofs.Qxb6612485a
/- THE CELL 'sum', in the pinned program and in every row, IS THE sha256 OF THE DUMP (.gsa) THAT Qxb6612485aProg.lean LOADS. Nothing in Lean hashes anything: it is a label: what it is worth is what the hold of that sum in a sandbox is worth. -/
noncomputable def Try.pinned : Pinned := { name := "qxb6612485a", sum := "f134c559c2219354cee6200ecab3f46f9186661f753956843309ce6570ab93b0", checked := Try.checked }
namespace Rows
def none {H : Type} : Left H := { results := [], args := [] }

/-- 'zzlaws_root_b1.FnReportBuilderBeginShapesReport': WHATEVER THE INPUT: true; the input reads as it did. -/
def fnReportBuilderBeginShapesReportSpec : ChangeSpec := { name := "fnReportBuilderBeginShapesReport", fn := fun _ => fun
  | [d1, d2, d3] => { results := [.lit (.bool true)], args := [d1, d2, d3] }
  | _ => none }
def fnReportBuilderBeginShapesReportRow : OpenClaim := { program := "qxb6612485a", sum := "f134c559c2219354cee6200ecab3f46f9186661f753956843309ce6570ab93b0", func := "example.com/quietbeacon/quietbeacon/zzlaws_root_b1.FnReportBuilderBeginShapesReport", spec := "fnReportBuilderBeginShapesReport", inPlace := ["internal/abi.NoEscape", "internal/bytealg.MakeNoZero"], apart := false }
def FnReportBuilderBeginShapesReportSaid : Prop := fnReportBuilderBeginShapesReportRow.holds Try.pinned (OpenSpec.ofChange fnReportBuilderBeginShapesReportSpec)

/-- ITS FALSE NEIGHBOUR: 'it returns false'. Refute it at one input. -/
def fnReportBuilderBeginShapesReportWrong : ChangeSpec := { name := "fnReportBuilderBeginShapesReport", fn := fun _ => fun
  | [d1, d2, d3] => { results := [.lit (.bool false)], args := [d1, d2, d3] }
  | _ => none }
def FnReportBuilderBeginShapesReportWrongFalsely : Prop := fnReportBuilderBeginShapesReportRow.holds Try.pinned (OpenSpec.ofChange fnReportBuilderBeginShapesReportWrong)

/-- 'zzlaws_root_b1.FnReportBuilderBeginReservesStore': WHATEVER THE INPUT: true; the input reads as it did. -/
def fnReportBuilderBeginReservesStoreSpec : ChangeSpec := { name := "fnReportBuilderBeginReservesStore", fn := fun _ => fun
  | [d1, d2, d3] => { results := [.lit (.bool true)], args := [d1, d2, d3] }
  | _ => none }
def fnReportBuilderBeginReservesStoreRow : OpenClaim := { program := "qxb6612485a", sum := "f134c559c2219354cee6200ecab3f46f9186661f753956843309ce6570ab93b0", func := "example.com/quietbeacon/quietbeacon/zzlaws_root_b1.FnReportBuilderBeginReservesStore", spec := "fnReportBuilderBeginReservesStore", inPlace := ["internal/abi.NoEscape", "internal/bytealg.MakeNoZero"], apart := false }
def FnReportBuilderBeginReservesStoreSaid : Prop := fnReportBuilderBeginReservesStoreRow.holds Try.pinned (OpenSpec.ofChange fnReportBuilderBeginReservesStoreSpec)

/-- ITS FALSE NEIGHBOUR: 'it returns false'. Refute it at one input. -/
def fnReportBuilderBeginReservesStoreWrong : ChangeSpec := { name := "fnReportBuilderBeginReservesStore", fn := fun _ => fun
  | [d1, d2, d3] => { results := [.lit (.bool false)], args := [d1, d2, d3] }
  | _ => none }
def FnReportBuilderBeginReservesStoreWrongFalsely : Prop := fnReportBuilderBeginReservesStoreRow.holds Try.pinned (OpenSpec.ofChange fnReportBuilderBeginReservesStoreWrong)

/-- 'zzlaws_root_b1.FnStoreReserveValuesGivesEmptyRoomOfOne': WHATEVER THE INPUT: true; the input reads as it did. -/
def fnStoreReserveValuesGivesEmptyRoomOfOneSpec : ChangeSpec := { name := "fnStoreReserveValuesGivesEmptyRoomOfOne", fn := fun _ => fun
  | [d] => { results := [.lit (.bool true)], args := [d] }
  | _ => none }
def fnStoreReserveValuesGivesEmptyRoomOfOneRow : OpenClaim := { program := "qxb6612485a", sum := "f134c559c2219354cee6200ecab3f46f9186661f753956843309ce6570ab93b0", func := "example.com/quietbeacon/quietbeacon/zzlaws_root_b1.FnStoreReserveValuesGivesEmptyRoomOfOne", spec := "fnStoreReserveValuesGivesEmptyRoomOfOne", apart := false }
def FnStoreReserveValuesGivesEmptyRoomOfOneSaid : Prop := fnStoreReserveValuesGivesEmptyRoomOfOneRow.holds Try.pinned (OpenSpec.ofChange fnStoreReserveValuesGivesEmptyRoomOfOneSpec)

/-- ITS FALSE NEIGHBOUR: 'it returns false'. Refute it at one input. -/
def fnStoreReserveValuesGivesEmptyRoomOfOneWrong : ChangeSpec := { name := "fnStoreReserveValuesGivesEmptyRoomOfOne", fn := fun _ => fun
  | [d] => { results := [.lit (.bool false)], args := [d] }
  | _ => none }
def FnStoreReserveValuesGivesEmptyRoomOfOneWrongFalsely : Prop := fnStoreReserveValuesGivesEmptyRoomOfOneRow.holds Try.pinned (OpenSpec.ofChange fnStoreReserveValuesGivesEmptyRoomOfOneWrong)

end Rows
end Go.Proofs.Qxb6612485a
