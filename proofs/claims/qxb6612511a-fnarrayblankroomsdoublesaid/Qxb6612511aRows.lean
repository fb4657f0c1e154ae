/-
  No cell of these rows narrows 'for every input' (looked for: loops, veiled, ifaces, maps, wideKeys, modest, calm, conditions, laid).
  DERIVED. THE GIVEN ROWS OF THIS SEAT. 1 by the template 'for every input the law returns true; each argument reads behind the call as it read before'; 0 by the template 'total and deterministic' (their statements: Qxb6612511aTotals.lean).
  GIVEN WITH THE SEED: the statements are not yours to turn. If you find one false, say at which input.
  Laid BY PROGRAM, IN A SANDBOX (cutbox-rows.mjs): the forced cells as the released guide's own fill.sh prints them over the translation 5190ea7623ee038e… (all of the seat's roots in one cut). By AI agents, Wed Nov 11 2026. No macro, syntax, notation, axiom, sorry.
-/
import Derived.Test.Qxb6612511aChecked
import GoSem.Claim
import GoSem.ClaimJoined
import GoSem.ClaimMapViews
import Derived.JoinedTies
import Derived.KernelRfl
namespace Go.Proofs.Qxb6612511a
/- THE CELL 'sum', in the pinned program and in every row, IS THE sha256 OF THE DUMP (.gsa) THAT Qxb6612511aProg.lean LOADS. Nothing in Lean hashes anything: it is a label: what it is worth is what the hold of that sum in a sandbox is worth. -/
noncomputable def Try.pinned : Pinned := { name := "qxb6612511a", sum := "5190ea7623ee038e06ac0722e31f147e8bd046d6cc0b581ebc5c17adde4dba20", checked := Try.checked }
namespace Rows
def none {H : Type} : Left H := { results := [], args := [] }

/-- 'zzlaws_internal_jsonscan_b1.FnArrayBlankRoomsDouble': WHATEVER THE INPUT: true; the input reads as it did. -/
def fnArrayBlankRoomsDoubleSpec : ChangeSpec := { name := "fnArrayBlankRoomsDouble", fn := fun _ => fun
  | [d] => { results := [.lit (.bool true)], args := [d] }
  | _ => none }
def fnArrayBlankRoomsDoubleRow : OpenClaim := { program := "qxb6612511a", sum := "5190ea7623ee038e06ac0722e31f147e8bd046d6cc0b581ebc5c17adde4dba20", func := "example.com/fuseline/fuseline/zzlaws_internal_jsonscan_b1.FnArrayBlankRoomsDouble", spec := "fnArrayBlankRoomsDouble", unfollowed := true, recurses := true, apart := false }
def FnArrayBlankRoomsDoubleSaid : Prop := fnArrayBlankRoomsDoubleRow.holds Try.pinned (OpenSpec.ofChange fnArrayBlankRoomsDoubleSpec)

/-- ITS FALSE NEIGHBOUR: 'it returns false'. Refute it at one input. -/
def fnArrayBlankRoomsDoubleWrong : ChangeSpec := { name := "fnArrayBlankRoomsDouble", fn := fun _ => fun
  | [d] => { results := [.lit (.bool false)], args := [d] }
  | _ => none }
def FnArrayBlankRoomsDoubleWrongFalsely : Prop := fnArrayBlankRoomsDoubleRow.holds Try.pinned (OpenSpec.ofChange fnArrayBlankRoomsDoubleWrong)

end Rows
end Go.Proofs.Qxb6612511a
