import Derived.Test.Qxb6612485aOne
namespace Go.Proofs.Qxb6612485a
open Go.RowKit

theorem info88 : (Try.prog.info? 88).map (fun i => (i.size, i.bytes)) = some (16, 192) := by kernel_rfl
theorem info88z : (Try.prog.info? 88).bind (fun i => i.zero) ≠ none := by
  have h : ((Try.prog.info? 88).bind (fun i => i.zero)).isSome = true := by kernel_rfl
  intro e
  rw [e] at h
  cases h

/-- The cells of the reportBuilder that ZZbeginReport lays. -/
abbrev cs0 (o r t : Nat) : Array Value := #[.slice none 0 0, .slice none 0 0, .pointer none, .slice none 0 0, .slice none 0 0, .int .i64 0, .slice none 0 0, .int .i64 0, .slice none 0 0, .int .i64 0, .slice none 0 0, .int .i64 0, .slice none 0 0, .int .i64 0, .int .i64 0, .int .i64 0, .bool false, .int .i64 o, .int .i64 r, .int .i64 t, .int .i64 0, .int .i64 0]
/-- .. and those that 'begin' leaves. -/
abbrev cs1 (b : Nat) (vr vd vt va vi : Value) (o r t : Nat) : Array Value := #[vr, vd, .pointer (some ⟨b, 2, none⟩), vt, .slice none 0 0, .int .i64 0, va, .int .i64 0, .slice none 0 0, .int .i64 0, vi, .int .i64 0, .slice none 0 0, .int .i64 0, .int .i64 0, .int .i64 0, .bool false, .int .i64 o, .int .i64 r, .int .i64 t, .int .i64 0, .int .i64 0]

/-- What 'begin' leaves, R the room of the Report. -/
def Left (b o r t R : Nat) (w w' : World) : Prop :=
  ∃ (ar ad : Addr) (ao aa ai : Option Addr) (cap na : Nat), t ≤ cap ∧ (na = if R = 1 then 2 else 0) ∧
    w'.heap[b]? = some (.cells (cs1 b (.slice (some ar) 0 R) (.slice (some ad) 0 0) (.slice ao 0 cap) (.slice aa na na) (.slice ai na na) o r t) 69 (0, 0)) ∧ Below b w w'

set_option maxRecDepth 100000 in
set_option maxHeartbeats 2000000 in
theorem begin_one (b o r t : Nat) (w : World) (hb : w.heap[b]? = some (.cells (cs0 o r t) 69 (0, 0))) (ho : o ≤ 65536) (ht : t ≤ 65536) (h1 : (r = 0 ∧ r < o) ∨ (r = 1 ∧ o = 1)) :
    Calls Try.prog 14 #[.pointer (some ⟨b, 0, none⟩)] w fun e w' => e = .returned (.tuple #[]) ∧ Left b o r t 1 w w' := by
  have c := blk_cell hb
  rcases h1 with ⟨h1, h2⟩ | ⟨h1, h2⟩
  · subst h1
    have hd : (0 : Int) < (o : Int) := by omega
    go_enter Try.func14, Try.ntmps14
    go_wp2_with fail
    go_quiet (fail)
    go_wp2_with fail
    refine (reserveOne_any b _ _ (blk_drewN hb nq) _ _ rfl rfl).mono ?_
    rintro e w1 ⟨rfl, hb1, hbel⟩
    have hbel1 : Below b w w1 := (below_drewN (Below.refl b w) nq).trans hbel
    clear hbel
    have c1 := blk_cell hb1
    have f1 := blk_frozen hb1
    have hlt := blk_lt hb1
    go_wp2_with fail
    have hb2 := blk_alloc (blk_set (blk_set hb1 0 (.slice (some ⟨w.heap.size, 0, none⟩) 0 1)) 1 (.slice (some ⟨w1.heap.size, 0, none⟩) 0 0)) (.cells #[] 115)
    have hbel2 : Below b w (((w1.setCell ⟨b, 0, none⟩ (.slice (some ⟨w.heap.size, 0, none⟩) 0 1)).setCell ⟨b, 1, none⟩ (.slice (some ⟨w1.heap.size, 0, none⟩) 0 0)).alloc (.cells #[] 115)) := ((hbel1.setCell (p := ⟨b, 0, none⟩) (Nat.le_refl b) _).setCell (p := ⟨b, 1, none⟩) (Nat.le_refl b) _).alloc (by simp [World.setCell]; omega) _
    generalize ((w1.setCell ⟨b, 0, none⟩ (.slice (some ⟨w.heap.size, 0, none⟩) 0 1)).setCell ⟨b, 1, none⟩ (.slice (some ⟨w1.heap.size, 0, none⟩) 0 0)).alloc (.cells #[] 115) = W2 at *
    have c2 : W2.cell? ⟨b, 19, none⟩ = some (.int .i64 t) := (blk_cell hb2 19).trans rfl
    clear c1 f1 hb1 c
    go_region_held3 (fun w' => w'.cell? ⟨b, 19, none⟩ = some (.int .i64 t)) (first | exact c2 | exact (blk_cell hb3 19).trans rfl)
      ((go_at_call 19; refine (reserveText_fresh b t _ W2.drew hb2 rfl rfl rfl ht).mono ?_; rintro e w' ⟨rfl, ao, cap, hcap, hb3, hbel3⟩))
    go_wp2_with fail
    go_end0
    exact ⟨rfl, ⟨w.heap.size, 0, none⟩, ⟨w1.heap.size, 0, none⟩, ao, some ⟨w.heap.size, 16, none⟩, some ⟨w.heap.size, 22, none⟩, cap, 2, hcap, rfl, hb3, (hbel2.drew).trans hbel3⟩
  · subst h1
    subst h2
    go_enter Try.func14, Try.ntmps14
    go_wp2_with fail
    go_quiet (fail)
    go_wp2_with fail
    refine (reserveOne_any b _ _ (blk_drewN hb nq) _ _ rfl rfl).mono ?_
    rintro e w1 ⟨rfl, hb1, hbel⟩
    have hbel1 : Below b w w1 := (below_drewN (Below.refl b w) nq).trans hbel
    clear hbel
    have c1 := blk_cell hb1
    have f1 := blk_frozen hb1
    have hlt := blk_lt hb1
    go_wp2_with fail
    have hb2 := blk_alloc (blk_set (blk_set hb1 0 (.slice (some ⟨w.heap.size, 0, none⟩) 0 1)) 1 (.slice (some ⟨w1.heap.size, 0, none⟩) 0 0)) (.cells #[] 115)
    have hbel2 : Below b w (((w1.setCell ⟨b, 0, none⟩ (.slice (some ⟨w.heap.size, 0, none⟩) 0 1)).setCell ⟨b, 1, none⟩ (.slice (some ⟨w1.heap.size, 0, none⟩) 0 0)).alloc (.cells #[] 115)) := ((hbel1.setCell (p := ⟨b, 0, none⟩) (Nat.le_refl b) _).setCell (p := ⟨b, 1, none⟩) (Nat.le_refl b) _).alloc (by simp [World.setCell]; omega) _
    generalize ((w1.setCell ⟨b, 0, none⟩ (.slice (some ⟨w.heap.size, 0, none⟩) 0 1)).setCell ⟨b, 1, none⟩ (.slice (some ⟨w1.heap.size, 0, none⟩) 0 0)).alloc (.cells #[] 115) = W2 at *
    have c2 : W2.cell? ⟨b, 19, none⟩ = some (.int .i64 t) := (blk_cell hb2 19).trans rfl
    clear c1 f1 hb1 c
    go_region_held3 (fun w' => w'.cell? ⟨b, 19, none⟩ = some (.int .i64 t)) (first | exact c2 | exact (blk_cell hb3 19).trans rfl)
      ((go_at_call 19; refine (reserveText_fresh b t _ W2.drew hb2 rfl rfl rfl ht).mono ?_; rintro e w' ⟨rfl, ao, cap, hcap, hb3, hbel3⟩))
    go_wp2_with fail
    go_end0
    exact ⟨rfl, ⟨w.heap.size, 0, none⟩, ⟨w1.heap.size, 0, none⟩, ao, some ⟨w.heap.size, 16, none⟩, some ⟨w.heap.size, 22, none⟩, cap, 2, hcap, rfl, hb3, (hbel2.drew).trans hbel3⟩

end Go.Proofs.Qxb6612485a
