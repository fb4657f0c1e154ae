import Derived.Test.Qxb6612485aGrow
namespace Go.Proofs.Qxb6612485a
open Go.RowKit

/-! ### The block of the builder, whole -/
theorem blk_cell {w : World} {b : Nat} {cs : Array Value} {t : TypeId} {fr : Nat × Nat} (hb : w.heap[b]? = some (.cells cs t fr)) (i : Nat) : w.cell? ⟨b, i, none⟩ = cs[i]? := Lib.cell_of_heap hb i
theorem blk_frozen {w : World} {b : Nat} {cs : Array Value} {t : TypeId} (hb : w.heap[b]? = some (.cells cs t (0, 0))) (i : Nat) : w.frozen? ⟨b, i, none⟩ = false := Lib.frozen_of_heap hb i
theorem blk_lt {w : World} {b : Nat} {o : Obj} (hb : w.heap[b]? = some o) : b < w.heap.size := by
  rcases Nat.lt_or_ge b w.heap.size with h' | h'
  · exact h'
  · simp [Array.getElem?_eq_none h'] at hb
theorem blk_set {w : World} {b : Nat} {cs : Array Value} {t : TypeId} {fr : Nat × Nat} (hb : w.heap[b]? = some (.cells cs t fr)) (i : Nat) (v : Value) :
    (w.setCell ⟨b, i, none⟩ v).heap[b]? = some (.cells (cs.setIfInBounds i v) t fr) := by
  simp [World.setCell, Array.getElem?_modify, hb]
theorem blk_alloc {w : World} {b : Nat} {x : Obj} (hb : w.heap[b]? = some x) (o : Obj) : (w.alloc o).heap[b]? = some x := by
  rw [Below.heap_alloc w o b (blk_lt hb)]; exact hb
theorem blk_drewN {w : World} {b : Nat} {x : Obj} (hb : w.heap[b]? = some x) (n : Nat) : (w.drewN n).heap[b]? = some x := hb
theorem below_drewN {B : Nat} {a w : World} (h : Below B a w) (n : Nat) : Below B a (w.drewN n) := ⟨h.os, h.tape, h.output, h.size, h.block⟩
theorem blk_shape {w : World} {b : Nat} {cs : Array Value} {t : TypeId} {fr : Nat × Nat} (hb : w.heap[b]? = some (.cells cs t fr)) : w.shape? b = some (t, cs.size) := by
  simp [World.shape?, hb]

set_option maxRecDepth 100000 in
set_option maxHeartbeats 1000000 in
/-- Grow(n) on the builder that lies in the block b from cell 2 on, never written before. -/
theorem Grow_fresh (b n : Nat) (cs : Array Value) (w : World) (hb : w.heap[b]? = some (.cells cs 69 (0, 0))) (hsz : cs.size = 22) (h2 : cs[2]? = some (.pointer none)) (h3 : cs[3]? = some (.slice none 0 0)) (hn : n ≤ 65536) :
    Calls Try.prog 21 #[.pointer (some ⟨b, 2, none⟩), .int .i64 n] w fun e w' => e = .returned (.tuple #[]) ∧
      ∃ (ao : Option Addr) (cap : Nat), n ≤ cap ∧ w'.heap[b]? = some (.cells ((cs.setIfInBounds 2 (.pointer (some ⟨b, 2, none⟩))).setIfInBounds 3 (.slice ao 0 cap)) 69 (0, 0)) ∧ Below b w w' := by
  have c2 : w.cell? ⟨b, 2, none⟩ = some (.pointer none) := (blk_cell hb 2).trans h2
  have hb1 := blk_set hb 2 (.pointer (some ⟨b, 2, none⟩))
  have c3 : (w.setCell ⟨b, 2, none⟩ (.pointer (some ⟨b, 2, none⟩))).cell? ⟨b, 3, none⟩ = some (.slice none 0 0) := (blk_cell hb1 3).trans (by simpa using h3)
  have f3 := blk_frozen hb1 3
  have hbel1 : Below b w (w.setCell ⟨b, 2, none⟩ (.pointer (some ⟨b, 2, none⟩))) := (Below.refl b w).setCell (p := ⟨b, 2, none⟩) (Nat.le_refl b) _
  have hsh := blk_shape hb
  rw [hsz] at hsh
  go_enter Try.func21, Try.ntmps21
  go_wp2_with fail
  refine (copyCheck_fresh b w c2 hsh (blk_frozen hb 2)).mono ?_
  rintro e w' ⟨rfl, rfl⟩
  generalize w.setCell ⟨b, 2, none⟩ (.pointer (some ⟨b, 2, none⟩)) = w1 at *
  clear hsh c2
  by_cases h0 : n = 0
  · subst h0
    go_wp2_with fail
    go_quiet (fail)
    go_wp2_with fail
    go_end0
    refine ⟨rfl, none, 0, Nat.le_refl _, ?_, below_drewN hbel1 _⟩
    have e3 : (cs.setIfInBounds 2 (.pointer (some ⟨b, 2, none⟩))).setIfInBounds 3 (.slice none 0 0) = cs.setIfInBounds 2 (.pointer (some ⟨b, 2, none⟩)) := by
      apply Array.ext_getElem?
      intro i
      by_cases hi : i = 3
      · subst hi
        rw [Array.getElem?_setIfInBounds_self_of_lt (by simp; omega)]
        simpa using h3.symm
      · rw [Array.getElem?_setIfInBounds_ne (by omega)]
    rw [e3]
    exact hb1
  · have hp : (0 : Int) < (n : Int) := by omega
    go_wp2_with fail
    go_quiet (fail)
    go_wp2_with fail
    refine (grow_fresh b n _ ?_ ?_ ?_ hn).mono ?_
    · exact c3
    · exact f3
    · exact blk_lt (blk_drewN hb1 _)
    rintro e w' ⟨rfl, d, hd, rfl⟩
    go_wp2_with fail
    go_end0
    refine ⟨rfl, some ⟨w1.heap.size, 0, none⟩, d.size, hd, ?_, ?_⟩
    · exact blk_alloc (blk_set (blk_drewN hb1 _) 3 _) _
    · have := below_drewN hbel1 nq
      exact ((((this.setCell (p := ⟨b, 3, none⟩) (Nat.le_refl b) _).alloc (by have := blk_lt hb1; simp [World.setCell]; omega) _).drew).drew).drew
end Go.Proofs.Qxb6612485a
