import Derived.Test.Qxb6612396aLaw
import Derived.ProofKit
import Derived.ShutString
import Derived.ChangeOld
import Derived.Below
namespace Go.Proofs.Qxb6612396a
open Go.ChangeShapes Go.WideShapes Go.ChangeAt Go.RowKit
open Go.ChangeMaps (open_string shut_string)

theorem own : ownKnob Try.prog.godebug = none := by kernel_rfl
theorem laidOut : laidOutB Try.prog = true := by kernel_rfl
theorem cells23 : Try.prog.cellsOf 23 = 15 := by kernel_rfl
theorem cells9 : Try.prog.cellsOf 9 = 1 := by kernel_rfl
theorem cells4 : Try.prog.cellsOf 4 = 1 := by kernel_rfl
theorem cells3 : Try.prog.cellsOf 3 = 1 := by kernel_rfl

theorem array15 {α : Type} {cs : Array α} (h : cs.size = 15) : ∃ c0 c1 c2 c3 c4 c5 c6 c7 c8 c9 c10 c11 c12 c13 c14, cs = #[c0, c1, c2, c3, c4, c5, c6, c7, c8, c9, c10, c11, c12, c13, c14] := by
  obtain ⟨l⟩ := cs
  match l, h with
  | [c0, c1, c2, c3, c4, c5, c6, c7, c8, c9, c10, c11, c12, c13, c14], _ => exact ⟨c0, c1, c2, c3, c4, c5, c6, c7, c8, c9, c10, c11, c12, c13, c14, rfl⟩

section
variable {H : Type} {enc : TypeId × Value → H} {w : World} {base : Nat} {spare : Nat → Bool} {held : Bool}

theorem str_of {n : Nat} {c : Value} {y : DataW H × List MemPlace} (h : DataW.trod enc Try.prog w base spare held n 9 [c] = some y) : ∃ s, c = .string s := by
  obtain ⟨s, e, _⟩ := DataW.trod_string Try.underlying9 h
  exact ⟨s, by simpa using e⟩
theorem bool_of {n : Nat} {c : Value} {y : DataW H × List MemPlace} (h : DataW.trod enc Try.prog w base spare held n 4 [c] = some y) : ∃ s, c = .bool s := by
  obtain ⟨s, e, _⟩ := DataW.trod_bool Try.underlying4 h
  exact ⟨s, by simpa using e⟩
theorem int_of {n : Nat} {c : Value} {y : DataW H × List MemPlace} (h : DataW.trod enc Try.prog w base spare held n 3 [c] = some y) : ∃ s, c = .int .i64 s := by
  obtain ⟨s, e, _⟩ := DataW.trod_int Try.underlying3 h
  exact ⟨s, by simpa using e⟩

set_option maxRecDepth 100000 in
/-- One of the two arguments, opened: fifteen cells, each of its kind. -/
theorem open23 {r : Reach} {b0 : Nat} {v : Value} {d : DataW H} {p : List MemPlace} (hv : Value.okWide Try.prog w r b0 23 v) (h : DataW.Trod enc Try.prog w base spare held 23 v d p) :
    ∃ (s0 s1 s2 s3 s4 s5 s6 s7 : ByteArray) (q0 q1 : Bool) (a0 a1 a2 a3 a4 : Int),
      v = .agg #[.string s0, .string s1, .string s2, .string s3, .string s4, .string s5, .string s6, .string s7, .bool q0, .bool q1, .int .i64 a0, .int .i64 a1, .int .i64 a2, .int .i64 a3, .int .i64 a4] := by
  obtain ⟨cs, rfl, hsz⟩ := okWide_struct Try.underlying23 hv
  obtain ⟨c0, c1, c2, c3, c4, c5, c6, c7, c8, c9, c10, c11, c12, c13, c14, rfl⟩ := array15 (hsz.trans cells23)
  obtain ⟨fuel, hf⟩ := h
  obtain ⟨xs, n, _, _, _, hlen, hF⟩ := DataW.trod_struct Try.underlying23 hf
  have hsome : ∀ i, i < 15 → ∃ y, xs[i]? = some y := fun i hi => ⟨xs[i]'(by rw [hlen]; exact hi), List.getElem?_eq_getElem _⟩
  have g0 := hF 0 _ rfl; have g1 := hF 1 _ rfl; have g2 := hF 2 _ rfl; have g3 := hF 3 _ rfl; have g4 := hF 4 _ rfl
  have g5 := hF 5 _ rfl; have g6 := hF 6 _ rfl; have g7 := hF 7 _ rfl; have g8 := hF 8 _ rfl; have g9 := hF 9 _ rfl
  have g10 := hF 10 _ rfl; have g11 := hF 11 _ rfl; have g12 := hF 12 _ rfl; have g13 := hF 13 _ rfl; have g14 := hF 14 _ rfl
  clear hF
  simp [Value.cells, cells9, cells4, cells3] at g0 g1 g2 g3 g4 g5 g6 g7 g8 g9 g10 g11 g12 g13 g14
  obtain ⟨y0, e0⟩ := hsome 0 (by decide); obtain ⟨y1, e1⟩ := hsome 1 (by decide); obtain ⟨y2, e2⟩ := hsome 2 (by decide); obtain ⟨y3, e3⟩ := hsome 3 (by decide); obtain ⟨y4, e4⟩ := hsome 4 (by decide)
  obtain ⟨y5, e5⟩ := hsome 5 (by decide); obtain ⟨y6, e6⟩ := hsome 6 (by decide); obtain ⟨y7, e7⟩ := hsome 7 (by decide); obtain ⟨y8, e8⟩ := hsome 8 (by decide); obtain ⟨y9, e9⟩ := hsome 9 (by decide)
  obtain ⟨y10, e10⟩ := hsome 10 (by decide); obtain ⟨y11, e11⟩ := hsome 11 (by decide); obtain ⟨y12, e12⟩ := hsome 12 (by decide); obtain ⟨y13, e13⟩ := hsome 13 (by decide); obtain ⟨y14, e14⟩ := hsome 14 (by decide)
  obtain ⟨s0, rfl⟩ := str_of (g0.trans e0); obtain ⟨s1, rfl⟩ := str_of (g1.trans e1); obtain ⟨s2, rfl⟩ := str_of (g2.trans e2); obtain ⟨s3, rfl⟩ := str_of (g3.trans e3)
  obtain ⟨s4, rfl⟩ := str_of (g4.trans e4); obtain ⟨s5, rfl⟩ := str_of (g5.trans e5); obtain ⟨s6, rfl⟩ := str_of (g6.trans e6); obtain ⟨s7, rfl⟩ := str_of (g7.trans e7)
  obtain ⟨q0, rfl⟩ := bool_of (g8.trans e8); obtain ⟨q1, rfl⟩ := bool_of (g9.trans e9)
  obtain ⟨a0, rfl⟩ := int_of (g10.trans e10); obtain ⟨a1, rfl⟩ := int_of (g11.trans e11); obtain ⟨a2, rfl⟩ := int_of (g12.trans e12); obtain ⟨a3, rfl⟩ := int_of (g13.trans e13); obtain ⟨a4, rfl⟩ := int_of (g14.trans e14)
  exact ⟨s0, s1, s2, s3, s4, s5, s6, s7, q0, q1, a0, a1, a2, a3, a4, rfl⟩
end

/-! ### THE ROW's STEP -/
set_option maxRecDepth 100000 in
theorem lifted (os : Os) (started : os.Started) (H : Type) (enc : TypeId × Value → H) :
    ReturnsInHanded {} Try.checked os 3 .any (Rows.fnParamsAddsOverReadsSpec.pre6 enc Try.prog Try.f3 Rows.fnParamsAddsOverReadsRow.domain false) (Rows.fnParamsAddsOverReadsSpec.post enc Try.prog Try.f3 false true false false) := by
  refine returnsInHanded_of_change (C := Try.checked) own started (by kernel_rfl) Try.func3
    (ChangeSpec.witness6 (enc := enc) (C := Try.checked) false ⟨#[], #[.agg #[.string ⟨#[]⟩, .string ⟨#[]⟩, .string ⟨#[]⟩, .string ⟨#[]⟩, .string ⟨#[]⟩, .string ⟨#[]⟩, .string ⟨#[]⟩, .string ⟨#[]⟩, .bool false, .bool false, .int .i64 0, .int .i64 0, .int .i64 0, .int .i64 0, .int .i64 0], .agg #[.string ⟨#[]⟩, .string ⟨#[]⟩, .string ⟨#[]⟩, .string ⟨#[]⟩, .string ⟨#[]⟩, .string ⟨#[]⟩, .string ⟨#[]⟩, .string ⟨#[]⟩, .bool false, .bool false, .int .i64 0, .int .i64 0, .int .i64 0, .int .i64 0, .int .i64 0]], []⟩ 8 (by kernel_rfl) (by kernel_rfl) (by kernel_rfl) (by kernel_rfl)) ?_
  intro W base args ds gs before hval0 hW hcnd _
  have hval : ∀ (j : Nat) t v, Try.f3.params[j]? = some t → args[j]? = some v → Value.okWide Try.prog W .any base t v := hval0
  have hW' := hW
  obtain ⟨p, q, hA0, hV, rfl, hfz, hnd⟩ := hW
  have hA : DataW.TrodAll enc Try.prog W 0 (fun _ => true) true Try.f3.params.toList args.toList ds p := hA0
  rw [Try.params3] at hA hval
  obtain ⟨v0, v1, d0, d1, p0, p1, rfl, rfl, rfl, h0, h1⟩ := trodAll_two hA
  obtain ⟨rfl, rfl⟩ := trodVars_none hV
  have lt0 : ∀ x ∈ p0, x.block < W.heap.size := by obtain ⟨m, hm⟩ := h0; exact DataW.trod_lt m _ _ _ hm
  have lt1 : ∀ x ∈ p1, x.block < W.heap.size := by obtain ⟨m, hm⟩ := h1; exact DataW.trod_lt m _ _ _ hm
  have k0 := h0
  have k1 := h1
  obtain ⟨s0, s1, s2, s3, s4, s5, s6, s7, q0, q1, a0, a1, a2, a3, a4, rfl⟩ := open23 (hval 0 23 v0 rfl rfl) h0
  obtain ⟨t0, t1, t2, t3, t4, t5, t6, t7, r0, r1, b0, b1, b2, b3, b4, rfl⟩ := open23 (hval 1 23 v1 rfl rfl) h1
  clear hA0 hval0
  refine (law_any s0 s1 s2 s3 s4 s5 s6 s7 q0 q1 a0 a1 a2 a3 a4 t0 t1 t2 t3 t4 t5 t6 t7 r0 r1 b0 b1 b2 b3 b4 W).mono fun e W' ⟨he, bel⟩ => ?_
  subst he
  exact ⟨_, rfl, _, _, _, [], _, [], hW', trodAll_mk1 (shut_bool Try.underlying4 _), trodAll_mk2 (Below.trod laidOut (by kernel_rfl) (of_decide_eq_true (by kernel_rfl)) k0 bel lt0) (Below.trod laidOut (by kernel_rfl) (of_decide_eq_true (by kernel_rfl)) k1 bel lt1), rfl, bel.frame _, fun h => by cases h⟩

theorem over : Rows.fnParamsAddsOverReadsRow.holds Try.pinned (OpenSpec.ofChange Rows.fnParamsAddsOverReadsSpec) :=
  OpenClaim.holds_of_wide 3 Try.f3 rfl rfl rfl rfl rfl rfl rfl ⟨rfl, rfl, rfl, rfl, rfl⟩ rfl rfl rfl rfl rfl (by kernel_rfl) Try.func3 (by kernel_rfl)
    (of_decide_eq_true (by kernel_rfl)) (by unfold Func.isWrapper; first | (rw [if_pos (by decide +kernel)]; kernel_rfl) | (rw [if_neg (by decide +kernel)]; exact ⟨rfl, rfl⟩))
    (fun os started H enc _ => lifted os started H enc)

/-- THE STATEMENT -/
theorem proved : Rows.FnParamsAddsOverReadsSaid := over
end Go.Proofs.Qxb6612396a
