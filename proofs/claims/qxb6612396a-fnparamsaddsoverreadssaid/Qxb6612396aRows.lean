/-
  No cell of these rows narrows 'for every input' (looked for: loops, veiled, ifaces, maps, wideKeys, modest, calm, conditions, laid).
  DERIVED. THE GIVEN ROWS OF THIS SEAT. 1 by the template 'for every input the law returns true; each argument reads behind the call as it read before'; 0 by the template 'total and deterministic' (their statements: Qxb6612396aTotals.lean).
  GIVEN WITH THE SEED: the statements are not yours to turn. If you find one false, say at which input.
  Laid BY PROGRAM, IN A SANDBOX (cutbox-rows.mjs): the forced cells as the released guide's own fill.sh prints them over the translation b3323546788e09fd… (all of the seat's roots in one cut). By AI agents, Wed Nov 11 2026. No macro, syntax, notation, axiom, sorry.
-/
import Derived.Test.Qxb6612396aChecked
import GoSem.Claim
import GoSem.ClaimJoined
import GoSem.ClaimMapViews
import Derived.JoinedTies
import Derived.KernelRfl
namespace Go.Proofs.Qxb6612396a
/- THE CELL 'sum', in the pinned program and in every row, IS THE sha256 OF THE DUMP (.gsa) THAT Qxb6612396aProg.lean LOADS. Nothing in Lean hashes anything: it is a label: what it is worth is what the hold of that sum in a sandbox is worth. -/
noncomputable def Try.pinned : Pinned := { name := "qxb6612396a", sum := "b3323546788e09fd14d5ef0e2f9c6211430a241c49a6e7ee5d871f2d54743b6a", checked := Try.checked }
namespace Rows
def none {H : Type} : Left H := { results := [], args := [] }

/-- 'zzlaws_internal_sqltext_b1.FnParamsAddsOverReads': WHATEVER THE INPUT: true; the input reads as it did. -/
def fnParamsAddsOverReadsSpec : ChangeSpec := { name := "fnParamsAddsOverReads", fn := fun _ => fun
  | [d1, d2] => { results := [.lit (.bool true)], args := [d1, d2] }
  | _ => none }
def fnParamsAddsOverReadsRow : OpenClaim := { program := "qxb6612396a", sum := "b3323546788e09fd14d5ef0e2f9c6211430a241c49a6e7ee5d871f2d54743b6a", func := "example.com/mirrorlog/mirrorlog/zzlaws_internal_sqltext_b1.FnParamsAddsOverReads", spec := "fnParamsAddsOverReads", apart := false }
def FnParamsAddsOverReadsSaid : Prop := fnParamsAddsOverReadsRow.holds Try.pinned (OpenSpec.ofChange fnParamsAddsOverReadsSpec)

/-- ITS FALSE NEIGHBOUR: 'it returns false'. Refute it at one input. -/
def fnParamsAddsOverReadsWrong : ChangeSpec := { name := "fnParamsAddsOverReads", fn := fun _ => fun
  | [d1, d2] => { results := [.lit (.bool false)], args := [d1, d2] }
  | _ => none }
def FnParamsAddsOverReadsWrongFalsely : Prop := fnParamsAddsOverReadsRow.holds Try.pinned (OpenSpec.ofChange fnParamsAddsOverReadsWrong)

end Rows
end Go.Proofs.Qxb6612396a
