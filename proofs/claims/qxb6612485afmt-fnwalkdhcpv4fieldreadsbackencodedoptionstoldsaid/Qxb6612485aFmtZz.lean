import Derived.Test.Qxb6612485aFmtWalk
namespace Go.Proofs.Qxb6612485aFmt
open Go.RowKit
open Go.Extern.Stop Go.Stop Go.Extern

theorem own_le {w : World} {base base' size n : Nat} {e : TypeId} {v : Value} {xs : List Value} (h : w.ownsRow base e size v n xs) (hb : base' ≤ base) : w.ownsRow base' e size v n xs := by
  refine ⟨h.1, ?_⟩
  rcases h.2 with e | ⟨g, cap, cur, hv, hg, rest⟩
  · exact .inl e
  · exact .inr ⟨g, cap, cur, hv, by omega, rest⟩

/-- What the error must be. -/
def Err (err : Value) (f : Bool) : Prop := (err = .nilIface ∧ f = false) ∨ ((∃ q, err = .iface 41 (.pointer (some q))) ∧ f = true)

set_option maxRecDepth 100000 in
set_option maxHeartbeats 1000000 in
theorem zz_any (F : Interp) (a : Option Addr) (xs : List Int) (cap : Nat) (st en : Int) (nm : ByteArray) (w : World) (hF : F.answers w.tape) (hr : Rd w w.heap.size a xs) (hcap : xs.length ≤ cap) (hst : 0 ≤ st) (hen : en ≤ xs.length) :
    Calls Tryf.prog 7 #[.slice a xs.length cap, .int .i64 st, .int .i64 en, .string nm] w fun e w' => ∃ vc vd err, e = .returned (.tuple #[vc, vd, err]) ∧ Err err (spec xs en.toNat st.toNat).2 ∧
      w'.ownsRow w.heap.size 5 1 vc ((spec xs en.toNat st.toNat).1.map fun o => o.1).length (bytesOf ((spec xs en.toNat st.toNat).1.map fun o => o.1)) ∧ w'.ownsRow w.heap.size 22 1 vd ((spec xs en.toNat st.toNat).1.map (piece a cap)).length ((spec xs en.toNat st.toNat).1.map (piece a cap)) ∧ Below w.heap.size w w' := by
  generalize hT : spec xs en.toNat st.toNat = T
  have hbel0 : Below w.heap.size w ((w.alloc (.cells #[.slice none 0 0] 22)).alloc (.cells #[.slice none 0 0] 25)) := ((Below.refl _ _).alloc (Nat.le_refl _) _).alloc (by simp) _
  have hbox : Box w.heap.size ((w.alloc (.cells #[.slice none 0 0] 22)).alloc (.cells #[.slice none 0 0] 25)) [] [] := by
    refine ⟨.slice none 0 0, .slice none 0 0, blk_alloc (heap_alloc_new w _) _, ?_, World.ownsRow_nil _ _ _ _, World.ownsRow_nil _ _ _ _⟩
    have := heap_alloc_new (w.alloc (.cells #[.slice none 0 0] 22)) (.cells #[.slice none 0 0] 25)
    simpa using this
  go_enter Tryf.func7, Tryf.ntmps7
  go_wp2_with fail
  refine (walk_any F w.heap.size a xs cap st en nm _ (by exact hF) (hr.below hbel0) hcap hst hen hbox).mono ?_
  rintro e w' ⟨err, rfl, herr, hB, hbl⟩
  rw [hT] at herr hB
  have hbel := hbel0.trans hbl
  clear hbl hbox hbel0
  obtain ⟨vc, vd, hb0, hb1, ho0, ho1⟩ := hB
  have c0 := blk_cell hb0
  have c1 := blk_cell hb1
  go_wp2_with fail
  go_quiet (fail)
  go_wp2_with fail
  go_ret3
  exact ⟨vc, vd, err, rfl, herr, own_le ho0 (by omega), own_le ho1 (by omega), below_drewN hbel _⟩
end Go.Proofs.Qxb6612485aFmt
