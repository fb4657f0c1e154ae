import Derived.Test.Qxb6612485aLeaf
import Derived.Laws.IdiomCopy
namespace Go.Proofs.Qxb6612485a
open Go.RowKit

theorem size5 : (Try.prog.info? 5).map (fun i => i.size) = some 1 := by kernel_rfl

theorem old_cell {w : World} {b i : Nat} {v : Value} (o : Obj) (h : w.cell? ⟨b, i, none⟩ = some v) : (w.alloc o).cell? ⟨b, i, none⟩ = some v := by
  have hlt : b < w.heap.size := by
    rcases Nat.lt_or_ge b w.heap.size with h' | h'
    · exact h'
    · simp [World.cell?, Array.getElem?_eq_none h'] at h
  rw [← h]
  exact World.cell?_of_block (w := w) (Below.heap_alloc w o b hlt)
theorem old_frozen {w : World} {b i : Nat} (o : Obj) (hlt : b < w.heap.size) : (w.alloc o).frozen? ⟨b, i, none⟩ = w.frozen? ⟨b, i, none⟩ :=
  World.frozen?_of_block (w := w) (Below.heap_alloc w o b hlt)

set_option maxRecDepth 100000 in
set_option maxHeartbeats 1000000 in
theorem grow_fresh (b n : Nat) (w : World) (c3 : w.cell? ⟨b, 3, none⟩ = some (.slice none 0 0)) (f3 : w.frozen? ⟨b, 3, none⟩ = false) (hlt : b < w.heap.size) (hn : n ≤ 65536) :
    Calls Try.prog 23 #[.pointer (some ⟨b, 2, none⟩), .int .i64 n] w fun e w' => e = .returned (.tuple #[]) ∧
      ∃ cs : Array Value, n ≤ cs.size ∧ w' = ((w.setCell ⟨b, 3, none⟩ (.slice (some ⟨w.heap.size, 0, none⟩) 0 cs.size)).alloc (.cells cs 5)).drew.drew.drew := by
  obtain ⟨cs, hrun, hle, hmax⟩ := Lib.run_makeNoZero (P := Try.prog) w.drew #[3] 51 5 Try.underlying51 n (by omega)
  have hw : IntKind.i64.wrap (IntKind.i64.wrap 0 + (n : Int)) = n := by
    rw [IntKind.wrap_i64, IntKind.wrap_i64]
    omega
  have hcall : (callFunc 25 #[.int .i64 (IntKind.i64.wrap (IntKind.i64.wrap 0 + (n : Int)))]).run Try.prog w.drew = .ok (.value (.slice (some ⟨w.drew.heap.size, 0, none⟩) n cs.size)) (w.drew.drew.drew.alloc (.cells cs 5)) := by
    rw [hw, run_callFunc_extern Try.func25 (by kernel_rfl) (by kernel_rfl) (by kernel_rfl) (e := Extern.BytealgMakeNoZero.makeNoZero #[3] #[51]) (by kernel_rfl), hrun]
    rfl
  have c2 := old_cell (.cells cs 5) c3
  have f2 : (w.alloc (.cells cs 5)).frozen? ⟨b, 3, none⟩ = false := (old_frozen _ hlt).trans f3
  have hcopy : ∀ W : World, (Builtin.copy_ #[51, 51] 3 #[.slice (some ⟨w.heap.size, 0, none⟩) 0 cs.size, .slice none 0 0]).run Try.prog W = .ok (goInt 0) W :=
    fun W => run_copy_none W 51 51 3 5 _ _ 0 cs.size 0 0 Try.underlying51 size5 rfl
  clear hw
  go_enter Try.func23, Try.ntmps23
  go_wp2
  go_region_held3 (fun w' => w'.cell? ⟨b, 3, none⟩ = some (.slice none 0 0)) (first | assumption | exact c2 | (simp [go_sem, *])) (fail)
  all_goals (go_wp2; go_end0; exact ⟨rfl, cs, hle, rfl⟩)
end Go.Proofs.Qxb6612485a
