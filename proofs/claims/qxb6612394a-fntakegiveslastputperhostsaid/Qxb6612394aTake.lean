import Derived.Test.Qxb6612394aMap
import Derived.Test.Qxb6612394aLocks
import Derived.Test.Qxb6612394aLast
import Derived.Conc.MuLone
import Derived.WalkLawsBesides
import Derived.BigQuiet
import Derived.Deep.QuietTactic
import Derived.Deep.AppendLies
import Derived.Deep.DrawnRows
import Derived.Deep.RegionHeld3
import Derived.Lib.Builder
namespace Go.Proofs.Qxb6612394a
open Go.RowKit Go.Maps
open Go.MuLone
attribute [local go_sem ↓] Go.wp_at_zero Go.wp_at_succ

/-! ### A block, whole -/
theorem blk_cell {w : World} {b : Nat} {cs : Array Value} {t : TypeId} {fr : Nat × Nat} (hb : w.heap[b]? = some (.cells cs t fr)) (i : Nat) : w.cell? ⟨b, i, none⟩ = cs[i]? := Lib.cell_of_heap hb i
theorem blk_frozen {w : World} {b : Nat} {cs : Array Value} {t : TypeId} (hb : w.heap[b]? = some (.cells cs t (0, 0))) (i : Nat) : w.frozen? ⟨b, i, none⟩ = false := Lib.frozen_of_heap hb i
theorem blk_lt {w : World} {b : Nat} {o : Obj} (hb : w.heap[b]? = some o) : b < w.heap.size := by
  rcases Nat.lt_or_ge b w.heap.size with h' | h'
  · exact h'
  · simp [Array.getElem?_eq_none h'] at hb
theorem blk_set {w : World} {b : Nat} {cs : Array Value} {t : TypeId} {fr : Nat × Nat} (hb : w.heap[b]? = some (.cells cs t fr)) (i : Nat) (v : Value) :
    (w.setCell ⟨b, i, none⟩ v).heap[b]? = some (.cells (cs.setIfInBounds i v) t fr) := by
  simp [World.setCell, Array.getElem?_modify, hb]
theorem blk_alloc {w : World} {b : Nat} {x : Obj} (hb : w.heap[b]? = some x) (o : Obj) : (w.alloc o).heap[b]? = some x := by
  rw [Below.heap_alloc w o b (blk_lt hb)]; exact hb
theorem size_set (w : World) (a : Addr) (v : Value) : (w.setCell a v).heap.size = w.heap.size := by simp [World.setCell]
theorem heap_set (w : World) (a : Addr) (v : Value) (k : Nat) (h : k ≠ a.block) : (w.setCell a v).heap[k]? = w.heap[k]? := Below.heap_setCell w a v k h

/-- The cluster's cells: 'st' the lock's state word. -/
abbrev CL (mb : Nat) (st : Int) : Array Value := #[.int .i64 1000000000, .slice none 0 0, .int .i64 0, .int .i32 st, .int .u32 0, .map (some mb), .bool false]

/-- What a call on the cluster leaves alone: every block but the map's and one row's. -/
structure Kept2 (w w' : World) (mb : Nat) (row : Option Nat) : Prop where
  os : w'.os = w.os
  tape : w'.tape = w.tape
  output : w'.output = w.output
  size : w.heap.size ≤ w'.heap.size
  block : ∀ k, k < w.heap.size → k ≠ mb → some k ≠ row → w'.heap[k]? = w.heap[k]?

theorem set_back {w : World} {cb mb : Nat} (hb : w.heap[cb]? = some (.cells (CL mb 1) 51 (0, 0))) : (w.setCell ⟨cb, 3, none⟩ (.int .i32 0)).heap[cb]? = some (.cells (CL mb 0) 51 (0, 0)) := blk_set hb 3 _

theorem kept_lock {w w2 : World} {cb mb : Nat} {row : Option Nat} (hb : w.heap[cb]? = some (.cells (CL mb 0) 51 (0, 0))) (hb2 : w2.heap[cb]? = some (.cells (CL mb 1) 51 (0, 0)))
    (hk : Kept2 (w.setCell ⟨cb, 3, none⟩ (.int .i32 1)) w2 mb row) : Kept2 w (w2.setCell ⟨cb, 3, none⟩ (.int .i32 0)) mb row := by
  refine ⟨hk.os, hk.tape, hk.output, ?_, fun k h1 h2 h3 => ?_⟩
  · have := hk.size
    rw [size_set] at this ⊢
    exact this
  · by_cases hc : k = cb
    · subst hc
      rw [set_back hb2, hb]
    · rw [heap_set _ _ _ _ hc, hk.block k (by rw [size_set]; exact h1) h2 h3, heap_set _ _ _ _ hc]
theorem Kept2.refl (w : World) (mb : Nat) (row : Option Nat) : Kept2 w w mb row := ⟨rfl, rfl, rfl, Nat.le_refl _, fun _ _ _ _ => rfl⟩

set_option maxRecDepth 100000 in
set_option maxHeartbeats 1000000 in
/-- take, where the cluster keeps none. -/
theorem take_none (cb mb n : Nat) (f : ByteArray → Value) (h : ByteArray) (ao : Option Addr) (cp : Nat) (w : World) (hh : h.size ≤ maxLen) (hb : w.heap[cb]? = some (.cells (CL mb 0) 51 (0, 0))) (hm : MapSt w mb n f) (hne : mb ≠ cb) (hf : f h = .slice ao 0 cp) :
    Calls Try.prog 11 #[.pointer (some ⟨cb, 0, none⟩), .string h] w fun e w' => e = .returned (.pointer none) ∧ MapSt w' mb n f ∧ Kept2 w w' mb none := by
  have c := blk_cell hb
  have fz := blk_frozen hb
  have l := blk_lt hb
  go_enter_defers Try.func11, Try.ntmps11
  go_wp2_with fail
  refine (lock_free Try.muLib ⟨cb, 3, none⟩ w (c 3) (fz 3)).mono ?_
  rintro e w1 ⟨rfl, hw1⟩
  have hb1 : w1.heap[cb]? = some (.cells (CL mb 1) 51 (0, 0)) := by rw [hw1]; exact blk_set hb 3 _
  have hm1 : MapSt w1 mb n f := hm.kept (by rw [hw1]; exact heap_set _ _ _ _ hne)
  have hk1 : Kept2 w (w1.setCell ⟨cb, 3, none⟩ (.int .i32 0)) mb none := kept_lock hb hb1 (by rw [hw1]; exact Kept2.refl _ _ _)
  clear hw1 c fz l hb hm
  have c := blk_cell hb1
  have fz := blk_frozen hb1
  have l := blk_lt hb1
  have hl := hm1.look hh
  rw [hf] at hl
  go_wp2_with fail
  refine leaves_cons (f := 13) (args := #[.pointer (some ⟨cb, 3, none⟩)]) (by simp) (by simp [go_sem]) ?_
  refine (unlock_deferred Try.muLib ⟨cb, 3, none⟩ .returning _ (c 3) (fz 3)).mono ?_
  rintro e u' w2 ⟨rfl, rfl, rfl⟩
  exact ⟨_, results_tmp rfl _ _ _, rfl, hm1.kept (heap_set _ _ _ _ hne), hk1⟩

set_option maxRecDepth 100000 in
set_option maxHeartbeats 2000000 in
set_option linter.unusedSimpArgs false in
/-- take, where the cluster keeps some: the last one kept comes back. -/
theorem take_some (cb mb n g m cap c0 : Nat) (f : ByteArray → Value) (h : ByteArray) (w : World) (hh : h.size ≤ maxLen) (hn : n < maxLen) (hb : w.heap[cb]? = some (.cells (CL mb 0) 51 (0, 0))) (hm : MapSt w mb n f) (hne : mb ≠ cb)
    (hf : f h = .slice (some ⟨g, 0, none⟩) (m + 1) cap) (hcap : m + 1 ≤ cap) (hm1 : m ≤ 2000000) (hgc : g ≠ cb) (hgl : g < w.heap.size) (hcell : w.cell? ⟨g, m, none⟩ = some (.pointer (some ⟨c0, 0, none⟩))) :
    Calls Try.prog 11 #[.pointer (some ⟨cb, 0, none⟩), .string h] w fun e w' => e = .returned (.pointer (some ⟨c0, 0, none⟩)) ∧ MapSt w' mb (n + 1) (upd f h (.slice (some ⟨g, 0, none⟩) m cap)) ∧ Kept2 w w' mb none := by
  have c := blk_cell hb
  have fz := blk_frozen hb
  have l := blk_lt hb
  go_enter_defers Try.func11, Try.ntmps11
  go_wp2_with fail
  refine (lock_free Try.muLib ⟨cb, 3, none⟩ w (c 3) (fz 3)).mono ?_
  rintro e w1 ⟨rfl, hw1⟩
  have hb1 : w1.heap[cb]? = some (.cells (CL mb 1) 51 (0, 0)) := by rw [hw1]; exact blk_set hb 3 _
  have hmm : MapSt w1 mb n f := hm.kept (by rw [hw1]; exact heap_set _ _ _ _ hne)
  have hk1 : ∀ w2 : World, Kept2 w1 w2 mb none → w2.heap[cb]? = some (.cells (CL mb 1) 51 (0, 0)) → Kept2 w (w2.setCell ⟨cb, 3, none⟩ (.int .i32 0)) mb none := fun w2 k1 k2 => kept_lock hb k2 (by rw [← hw1]; exact k1)
  have hc1 : w1.cell? ⟨g, m, none⟩ = some (.pointer (some ⟨c0, 0, none⟩)) := by rw [hw1]; exact (World.cell?_of_block (heap_set _ _ _ _ hgc)).trans hcell
  have hg1 : g < w1.heap.size := by rw [hw1, size_set]; exact hgl
  clear hw1 c fz l hb hm hcell hgl
  have c := blk_cell hb1
  have fz := blk_frozen hb1
  have l := blk_lt hb1
  have hl := hmm.look hh
  rw [hf] at hl
  have h0 : (0 : Int) ≤ (m : Int) := by omega
  have h1 : ((m : Int) + 1 == 0) = false := beq_eq_false_iff_ne.2 (by omega)
  have h2 : (m : Int) ≤ (cap : Int) := by omega
  go_wp2_with fail
  have hwr : IntKind.i64.wrap (m : Int) = (m : Int) := by simp [IntKind.wrap, IntKind.signed, IntKind.bits]; omega
  refine Code.wp_mono NoPanic.imp ?_
  refine region_L (S := fun w' => ∀ i, w'.cell? ⟨cb, i, none⟩ = (CL mb 1)[i]?) (last := 10) (by kernel_rfl) ?_
  have hS : ∀ i, w1.drew.cell? ⟨cb, i, none⟩ = (CL mb 1)[i]? := c
  refine L_take (i := 0) (v := ?v0) rfl (by kernel_rfl) (fun _ _ _ h => h.elim) hS (Or.inl ⟨by rfl, ?y0⟩) ?r0
  case y0 => intro w' hSw; go_simp; try with_reducible rfl
  simp only [Act.put, List.setIfInBounds_toArray, List.set_cons_zero, List.set_cons_succ]
  refine L_take (i := 1) (v := ?v1) rfl (by kernel_rfl) (fun _ _ _ h => h.elim) hS (Or.inl ⟨by rfl, ?y1⟩) ?r1
  case y1 => intro w' hSw; go_simp; try with_reducible rfl
  simp only [Act.put, List.setIfInBounds_toArray, List.set_cons_zero, List.set_cons_succ]
  refine L_take (i := 2) (v := ?v2) rfl (by kernel_rfl) (fun _ _ _ h => h.elim) hS (Or.inl ⟨by rfl, ?y2⟩) ?r2
  case y2 => intro w' hSw; go_simp; try with_reducible rfl
  simp only [Act.put, List.setIfInBounds_toArray, List.set_cons_zero, List.set_cons_succ]
  refine L_take (i := 3) (v := ?v3) rfl (by kernel_rfl) (fun _ _ _ h => h.elim) hS (Or.inl ⟨by rfl, ?y3⟩) ?r3
  case y3 => intro w' hSw; go_simp; try with_reducible rfl
  simp only [Act.put, List.setIfInBounds_toArray, List.set_cons_zero, List.set_cons_succ]
  refine L_take (i := 4) (v := ?v4) rfl (by kernel_rfl) (fun _ _ _ h => h.elim) hS (Or.inl ⟨by rfl, ?y4⟩) ?r4
  case y4 => intro w' hSw; go_simp; try with_reducible rfl
  simp only [Act.put, List.setIfInBounds_toArray, List.set_cons_zero, List.set_cons_succ]
  refine L_take (i := 5) (v := ?v5) rfl (by kernel_rfl) (fun _ _ _ h => h.elim) hS (Or.inl ⟨by rfl, ?y5⟩) ?r5
  case y5 => intro w' hSw; go_simp; try with_reducible rfl
  simp only [Act.put, List.setIfInBounds_toArray, List.set_cons_zero, List.set_cons_succ]
  refine L_take (i := 6) (v := ?v6) rfl (by kernel_rfl) (fun _ _ _ h => h.elim) hS (Or.inl ⟨by rfl, ?y6⟩) ?r6
  case y6 => intro w' hSw; go_simp; try with_reducible rfl
  simp only [Act.put, List.setIfInBounds_toArray, List.set_cons_zero, List.set_cons_succ]
  refine L_take (i := 7) (v := ?v7) rfl (by kernel_rfl) (fun _ _ _ h => h.elim) hS (Or.inl ⟨by rfl, ?y7⟩) ?r7
  case y7 => intro w' hSw; go_simp; try with_reducible rfl
  simp only [Act.put, List.setIfInBounds_toArray, List.set_cons_zero, List.set_cons_succ]
  refine L_take (i := 8) (v := ?v8) rfl (by kernel_rfl) (fun _ _ _ h => h.elim) hS (Or.inl ⟨by rfl, ?y8⟩) ?r8
  case y8 => intro w' hSw; go_simp; try with_reducible rfl
  simp only [Act.put, List.setIfInBounds_toArray, List.set_cons_zero, List.set_cons_succ]
  refine L_take (i := 9) (v := ?v9) rfl (by kernel_rfl) (fun _ _ _ h => h.elim) hS (Or.inl ⟨by rfl, ?y9⟩) ?r9
  case y9 => intro w' hSw; go_simp; try with_reducible rfl
  simp only [Act.put, List.setIfInBounds_toArray, List.set_cons_zero, List.set_cons_succ]
  obtain ⟨w3, hrun, hm3, hturn⟩ := (show MapSt w1.drew mb n f from hmm).store hn hh (.slice (some ⟨g, 0, none⟩) m cap)
  refine L_only (i := 10) (by kernel_rfl) rfl rfl (fun K hK => ?_)
  go_simp
  refine hK _ _ (fun h => absurd rfl h) ?_
  clear hK K
  refine L_done (by kernel_rfl) (NoPanic.normal ?_) _
  have hb3 : w3.heap[cb]? = some (.cells (CL mb 1) 51 (0, 0)) := (hturn.grown.block cb l (fun e => hne (Option.some.inj e).symm)).trans hb1
  have hk3 : Kept2 w1 w3 mb none := ⟨hturn.grown.os, hturn.grown.tape, hturn.grown.output, hturn.grown.size, fun k k1 k2 _ => hturn.grown.block k k1 (fun e => k2 (Option.some.inj e))⟩
  clear c fz l hl hS
  have c := blk_cell hb3
  have fz := blk_frozen hb3
  have l := blk_lt hb3
  go_wp2_with fail
  refine leaves_cons (f := 13) (args := #[.pointer (some ⟨cb, 3, none⟩)]) (by simp) (by simp [go_sem]) ?_
  refine (unlock_deferred Try.muLib ⟨cb, 3, none⟩ .returning _ (c 3) (fz 3)).mono ?_
  rintro e u' w2 ⟨rfl, rfl, rfl⟩
  exact ⟨_, results_tmp rfl _ _ _, rfl, hm3.kept (heap_set _ _ _ _ hne), hk1 w3 hk3 hb3⟩
end Go.Proofs.Qxb6612394a
