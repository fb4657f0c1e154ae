/-
  No cell of these rows narrows 'for every input' (looked for: loops, veiled, ifaces, maps, wideKeys, modest, calm, conditions, laid).
  DERIVED. THE GIVEN ROWS OF THIS SEAT. 2 by the template 'for every input the law returns true; each argument reads behind the call as it read before'; 0 by the template 'total and deterministic' (their statements: Qxb6612485aFmtTotals.lean).
  GIVEN WITH THE SEED: the statements are not yours to turn. If you find one false, say at which input.
  Laid BY PROGRAM, IN A SANDBOX (cutbox-rows.mjs): the forced cells as the released guide's own fill.sh prints them over the translation 906486d06be0a324… (all of the seat's roots in one cut). By AI agents, Wed Nov 11 2026. No macro, syntax, notation, axiom, sorry.
-/
import Derived.Test.Qxb6612485aFmtChecked
import GoSem.Claim
import GoSem.ClaimJoined
import GoSem.ClaimMapViews
import Derived.JoinedTies
import Derived.KernelRfl
namespace Go.Proofs.Qxb6612485aFmt
/- THE CELL 'sum', in the pinned program and in every row, IS THE sha256 OF THE DUMP (.gsa) THAT Qxb6612485aFmtProg.lean LOADS. Nothing in Lean hashes anything: it is a label: what it is worth is what the hold of that sum in a sandbox is worth. -/
noncomputable def Tryf.pinned : Pinned := { name := "qxb6612485afmt", sum := "906486d06be0a324bb20789a1db7a019ffc2ef7012b2f6b8e17533ed9504f508", checked := Tryf.checked }
namespace Rows
def none {H : Type} : Left H := { results := [], args := [] }

/-- 'zzlaws_root_b1.FnWalkDHCPv4FieldAgreesWithByteMachine': WHATEVER THE INPUT: true; the input reads as it did. -/
def fnWalkDHCPv4FieldAgreesWithByteMachineSpec : ChangeSpec := { name := "fnWalkDHCPv4FieldAgreesWithByteMachine", fn := fun _ => fun
  | [d1, d2, d3, d4] => { results := [.lit (.bool true)], args := [d1, d2, d3, d4] }
  | _ => none }
def fnWalkDHCPv4FieldAgreesWithByteMachineRow : OpenClaim := { program := "qxb6612485afmt", sum := "906486d06be0a324bb20789a1db7a019ffc2ef7012b2f6b8e17533ed9504f508", func := "example.com/quietbeacon/quietbeacon/zzlaws_root_b1.FnWalkDHCPv4FieldAgreesWithByteMachine", spec := "fnWalkDHCPv4FieldAgreesWithByteMachine", stops := ["fmt.errorf"], inPlace := ["fmt.errorf"], unfollowed := true, recurses := true, apart := false }
/-- NO THEOREM (fmt's text is open here; it may be false): for the released tool's asking of the row's closed facts alone. THE STATEMENT IS 'FnWalkDHCPv4FieldAgreesWithByteMachineToldSaid' (Qxb6612485aFmtCards.lean). -/
def FnWalkDHCPv4FieldAgreesWithByteMachineFormAsk : Prop := fnWalkDHCPv4FieldAgreesWithByteMachineRow.holds Tryf.pinned (OpenSpec.ofChange fnWalkDHCPv4FieldAgreesWithByteMachineSpec)

/-- ITS FALSE NEIGHBOUR: 'it returns false'. Refute it at one input. -/
def fnWalkDHCPv4FieldAgreesWithByteMachineWrong : ChangeSpec := { name := "fnWalkDHCPv4FieldAgreesWithByteMachine", fn := fun _ => fun
  | [d1, d2, d3, d4] => { results := [.lit (.bool false)], args := [d1, d2, d3, d4] }
  | _ => none }
def FnWalkDHCPv4FieldAgreesWithByteMachineWrongFormAsk : Prop := fnWalkDHCPv4FieldAgreesWithByteMachineRow.holds Tryf.pinned (OpenSpec.ofChange fnWalkDHCPv4FieldAgreesWithByteMachineWrong)

/-- 'zzlaws_root_b1.FnWalkDHCPv4FieldReadsBackEncodedOptions': WHATEVER THE INPUT: true; the input reads as it did. -/
def fnWalkDHCPv4FieldReadsBackEncodedOptionsSpec : ChangeSpec := { name := "fnWalkDHCPv4FieldReadsBackEncodedOptions", fn := fun _ => fun
  | [d1, d2, d3, d4] => { results := [.lit (.bool true)], args := [d1, d2, d3, d4] }
  | _ => none }
def fnWalkDHCPv4FieldReadsBackEncodedOptionsRow : OpenClaim := { program := "qxb6612485afmt", sum := "906486d06be0a324bb20789a1db7a019ffc2ef7012b2f6b8e17533ed9504f508", func := "example.com/quietbeacon/quietbeacon/zzlaws_root_b1.FnWalkDHCPv4FieldReadsBackEncodedOptions", spec := "fnWalkDHCPv4FieldReadsBackEncodedOptions", stops := ["fmt.errorf"], inPlace := ["fmt.errorf"], unfollowed := true, recurses := true, apart := false }
/-- NO THEOREM (fmt's text is open here; it may be false): for the released tool's asking of the row's closed facts alone. THE STATEMENT IS 'FnWalkDHCPv4FieldReadsBackEncodedOptionsToldSaid' (Qxb6612485aFmtCards.lean). -/
def FnWalkDHCPv4FieldReadsBackEncodedOptionsFormAsk : Prop := fnWalkDHCPv4FieldReadsBackEncodedOptionsRow.holds Tryf.pinned (OpenSpec.ofChange fnWalkDHCPv4FieldReadsBackEncodedOptionsSpec)

/-- ITS FALSE NEIGHBOUR: 'it returns false'. Refute it at one input. -/
def fnWalkDHCPv4FieldReadsBackEncodedOptionsWrong : ChangeSpec := { name := "fnWalkDHCPv4FieldReadsBackEncodedOptions", fn := fun _ => fun
  | [d1, d2, d3, d4] => { results := [.lit (.bool false)], args := [d1, d2, d3, d4] }
  | _ => none }
def FnWalkDHCPv4FieldReadsBackEncodedOptionsWrongFormAsk : Prop := fnWalkDHCPv4FieldReadsBackEncodedOptionsRow.holds Tryf.pinned (OpenSpec.ofChange fnWalkDHCPv4FieldReadsBackEncodedOptionsWrong)

end Rows
end Go.Proofs.Qxb6612485aFmt
