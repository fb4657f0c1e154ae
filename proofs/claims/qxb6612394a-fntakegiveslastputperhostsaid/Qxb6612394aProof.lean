import Derived.Test.Qxb6612394aLaw
import Derived.Test.Qxb6612394aRows
import Derived.ProofKit
import Derived.ShutString
import Derived.ChangeOld
import Derived.Below
import Derived.Deep.SlicePairs
namespace Go.Proofs.Qxb6612394a
open Go.ChangeShapes Go.WideShapes Go.ChangeAt Go.RowKit Go.Deep

theorem own : ownKnob Try.prog.godebug = none := by kernel_rfl
theorem laidOut : laidOutB Try.prog = true := by kernel_rfl
theorem cells25 : Try.prog.cellsOf 25 = 2 := by kernel_rfl
theorem cells9 : Try.prog.cellsOf 9 = 1 := by kernel_rfl
theorem cells4 : Try.prog.cellsOf 4 = 1 := by kernel_rfl

def boolOf : Value → Bool
  | .bool b => b
  | _ => false
def strOf : Value → ByteArray
  | .string s => s
  | _ => ⟨#[]⟩

theorem cell_lt {w : World} {g o : Nat} {v : Value} (h : w.cell? ⟨g, o, none⟩ = some v) : g < w.heap.size := by
  refine Classical.byContradiction fun hn => ?_
  have : w.heap[g]? = none := Array.getElem?_eq_none (by omega)
  simp [World.cell?, this] at h

section
variable {H : Type} {enc : TypeId × Value → H} {w : World} {base : Nat} {spare : Nat → Bool} {held : Bool}

set_option maxRecDepth 100000 in
/-- The argument, opened: a slice of as many steps as it is long, each of a Bool and a string. -/
theorem open22 {v : Value} {d : DataW H} {p : List MemPlace} {r : Reach} {b0 : Nat} (hv : Value.okWide Try.prog w r b0 22 v) (h : DataW.Trod enc Try.prog w base spare held 22 v d p) :
    ∃ (a : Option Addr) (cap : Nat) (os : List (Bool × ByteArray)), v = .slice a os.length cap ∧ IsOps w a os := by
  obtain ⟨a, len, cap, rfl⟩ := okWide_slice Try.underlying22 hv
  obtain ⟨fuel, hf⟩ := h
  rcases open_slice_pairs Try.underlying22 Try.underlying25 cells25 rfl rfl cells4 cells9 hf with ⟨hc, _⟩ | ⟨b, len', cap', m, n, V0, V1, D0, D1, P0, P1, hc, _, hl, _, hmm, _, hall⟩
  · have e : Value.slice a len cap = .slice none 0 0 := by simpa [Value.cells] using hc
    cases e
    exact ⟨none, 0, [], rfl, fun i p h e => by simp at e⟩
  · have e : Value.slice a len cap = .slice (some b) len' cap' := by simpa [Value.cells] using hc
    cases e
    have hlm : len ≤ m := by rw [hmm]; split <;> omega
    refine ⟨some b, cap, (List.range len).map (fun i => (boolOf (V0 i), strOf (V1 i))), by simp, fun i p s e => ?_⟩
    have hi : i < len := by
      have := (List.getElem?_eq_some_iff.1 e).1
      simpa using this
    simp only [List.getElem?_map, List.getElem?_range hi, Option.map_some, Option.some.injEq, Prod.mk.injEq] at e
    obtain ⟨c0, c1, t0, t1⟩ := hall i (by omega)
    obtain ⟨q, e0, _⟩ := DataW.trod_bool Try.underlying4 t0
    obtain ⟨z, e1, _⟩ := DataW.trod_string Try.underlying9 t1
    simp only [List.cons.injEq, and_true] at e0 e1
    rw [e0] at c0 e
    rw [e1] at c1 e
    obtain ⟨rfl, rfl⟩ := e
    obtain ⟨g, o, spot⟩ := b
    have hspot : spot = none := by simpa [Addr.add] using World.cell?_spot (hall 0 (by omega)).1
    subst hspot
    rw [add_plain] at c0 c1
    refine ⟨g, o, rfl, ?_, c0, c1⟩
    exact cell_lt c0
end

/-! ### THE ROW's STEP -/
set_option maxRecDepth 100000 in
theorem lifted (os : Os) (started : os.Started) (H : Type) (enc : TypeId × Value → H) :
    ReturnsInHanded {} Try.checked os 3 .any (Rows.fnTakeGivesLastPutPerHostSpec.pre6 enc Try.prog Try.f3 Rows.fnTakeGivesLastPutPerHostRow.domain false) (Rows.fnTakeGivesLastPutPerHostSpec.post enc Try.prog Try.f3 false true false false) := by
  refine returnsInHanded_of_change (C := Try.checked) own started (by kernel_rfl) Try.func3
    (ChangeSpec.witness6 (enc := enc) (C := Try.checked) false ⟨#[], #[.slice none 0 0], []⟩ 8 (by kernel_rfl) (by kernel_rfl) (by kernel_rfl) (by kernel_rfl)) ?_
  intro W base args ds gs before hval0 hW hcnd _
  have hval : ∀ (j : Nat) t v, Try.f3.params[j]? = some t → args[j]? = some v → Value.okWide Try.prog W .any base t v := hval0
  have hW' := hW
  obtain ⟨p, q, hA0, hV, rfl, hfz, hnd⟩ := hW
  have hA : DataW.TrodAll enc Try.prog W 0 (fun _ => true) true Try.f3.params.toList args.toList ds p := hA0
  rw [Try.params3] at hA hval
  obtain ⟨v0, d0, rfl, rfl, h0⟩ := trodAll_one hA
  obtain ⟨rfl, rfl⟩ := trodVars_none hV
  have lt0 : ∀ x ∈ p, x.block < W.heap.size := by obtain ⟨m, hm⟩ := h0; exact DataW.trod_lt m _ _ _ hm
  have k0 := h0
  obtain ⟨a, cap, ops, rfl, hops⟩ := open22 (hval 0 22 v0 rfl rfl) h0
  clear hA0 hval0
  refine (law_any a cap ops W hops).mono fun e W' ⟨he, bel⟩ => ?_
  subst he
  exact ⟨_, rfl, _, _, _, [], _, [], hW', trodAll_mk1 (shut_bool Try.underlying4 _), trodAll_mk1 (Below.trod laidOut (by kernel_rfl) (of_decide_eq_true (by kernel_rfl)) k0 bel lt0), rfl, bel.frame _, fun h => by cases h⟩

theorem over : Rows.fnTakeGivesLastPutPerHostRow.holds Try.pinned (OpenSpec.ofChange Rows.fnTakeGivesLastPutPerHostSpec) :=
  OpenClaim.holds_of_wide 3 Try.f3 rfl rfl rfl rfl rfl rfl rfl ⟨rfl, rfl, rfl, rfl, rfl⟩ rfl rfl rfl rfl rfl (by kernel_rfl) Try.func3 (by kernel_rfl)
    (of_decide_eq_true (by kernel_rfl)) (by unfold Func.isWrapper; first | (rw [if_pos (by decide +kernel)]; kernel_rfl) | (rw [if_neg (by decide +kernel)]; exact ⟨rfl, rfl⟩))
    (fun os started H enc _ => lifted os started H enc)

/-- THE STATEMENT -/
theorem proved : Rows.FnTakeGivesLastPutPerHostSaid := over
end Go.Proofs.Qxb6612394a
