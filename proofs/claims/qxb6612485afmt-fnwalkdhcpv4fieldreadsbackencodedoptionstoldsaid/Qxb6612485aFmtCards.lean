/-
  DERIVED. GIVEN WITH THE SEED: THE CARDS: each row of Qxb6612485aFmtRows.lean that lists a variable, with what it lists TIED to the program's text (the seventh form; the later family's looks); each row that meets fmt, with fmt's text TOLD by the authors' own Lean function (tested against real Go, not proved from fmt's source: count such statements apart). THE CARD IS WHAT COUNTS. Prove the row's statement (the work); the ties are given (Qxb6612485aFmtTie.lean); close each card by the builder's one call (the guide's Derived/Test/ToyasCard.lean, 'card_holds'). Laid BY PROGRAM, IN A SANDBOX (cutbox-door.mjs). By AI agents, Wed Nov 11 2026. No macro, syntax, notation, axiom, sorry.
-/
import Derived.Test.Qxb6612485aFmtRows
import GoSem.ClaimSeven
namespace Go.Proofs.Qxb6612485aFmt
namespace Rows

/-- THE TOLD CARD OF 'zzlaws_root_b1.FnWalkDHCPv4FieldAgreesWithByteMachine'. -/
def fnWalkDHCPv4FieldAgreesWithByteMachineCard : Claim7 := { stood := { row := fnWalkDHCPv4FieldAgreesWithByteMachineRow, standIns := [], harness := (true, "ff32bb5ebea14753042d07a5ce47fb07d436bb22070fbebffa1f91b867f527b6"), looks := false }, told := true, goes := false }
def FnWalkDHCPv4FieldAgreesWithByteMachineToldSaid : Prop := Claim7.holds Tryf.pinned (.plain (OpenSpec.ofChange fnWalkDHCPv4FieldAgreesWithByteMachineSpec)) fnWalkDHCPv4FieldAgreesWithByteMachineCard
/-- ITS FALSE NEIGHBOUR. Refute it at one input. -/
def FnWalkDHCPv4FieldAgreesWithByteMachineToldWrongFalsely : Prop := Claim7.holds Tryf.pinned (.plain (OpenSpec.ofChange fnWalkDHCPv4FieldAgreesWithByteMachineWrong)) fnWalkDHCPv4FieldAgreesWithByteMachineCard

/-- THE TOLD CARD OF 'zzlaws_root_b1.FnWalkDHCPv4FieldReadsBackEncodedOptions'. -/
def fnWalkDHCPv4FieldReadsBackEncodedOptionsCard : Claim7 := { stood := { row := fnWalkDHCPv4FieldReadsBackEncodedOptionsRow, standIns := [], harness := (true, "ff32bb5ebea14753042d07a5ce47fb07d436bb22070fbebffa1f91b867f527b6"), looks := false }, told := true, goes := false }
def FnWalkDHCPv4FieldReadsBackEncodedOptionsToldSaid : Prop := Claim7.holds Tryf.pinned (.plain (OpenSpec.ofChange fnWalkDHCPv4FieldReadsBackEncodedOptionsSpec)) fnWalkDHCPv4FieldReadsBackEncodedOptionsCard
/-- ITS FALSE NEIGHBOUR. Refute it at one input. -/
def FnWalkDHCPv4FieldReadsBackEncodedOptionsToldWrongFalsely : Prop := Claim7.holds Tryf.pinned (.plain (OpenSpec.ofChange fnWalkDHCPv4FieldReadsBackEncodedOptionsWrong)) fnWalkDHCPv4FieldReadsBackEncodedOptionsCard
end Rows
end Go.Proofs.Qxb6612485aFmt
