import Derived.Test.Qxb6612511aRows
import Derived.Test.Qxb6612511aLast
import Derived.WalkKit
import Derived.WalkSpells
import Derived.WalkLawsBesides
import Derived.BigQuiet
import Derived.Deep.QuietTactic
import Derived.Deep.RegionHeld3
import Derived.Deep.AppendLies
import Derived.Deep.RegionLaw
import Derived.Deep.DrawnRows
import Derived.Room.AppendFits
import Derived.Lib.Builder
namespace Go.Proofs.Qxb6612511a
open Go.RowKit
attribute [local go_sem ↓] Go.wp_at_zero Go.wp_at_succ

/-! ### A block, whole -/
theorem blk_cell {w : World} {b : Nat} {cs : Array Value} {t : TypeId} {fr : Nat × Nat} (hb : w.heap[b]? = some (.cells cs t fr)) (i : Nat) : w.cell? ⟨b, i, none⟩ = cs[i]? := Lib.cell_of_heap hb i
theorem blk_frozen {w : World} {b : Nat} {cs : Array Value} {t : TypeId} (hb : w.heap[b]? = some (.cells cs t (0, 0))) (i : Nat) : w.frozen? ⟨b, i, none⟩ = false := Lib.frozen_of_heap hb i
theorem blk_lt {w : World} {b : Nat} {o : Obj} (hb : w.heap[b]? = some o) : b < w.heap.size := by
  rcases Nat.lt_or_ge b w.heap.size with h' | h'
  · exact h'
  · simp [Array.getElem?_eq_none h'] at hb
theorem blk_set {w : World} {b : Nat} {cs : Array Value} {t : TypeId} {fr : Nat × Nat} (hb : w.heap[b]? = some (.cells cs t fr)) (i : Nat) (v : Value) :
    (w.setCell ⟨b, i, none⟩ v).heap[b]? = some (.cells (cs.setIfInBounds i v) t fr) := by
  simp [World.setCell, Array.getElem?_modify, hb]
theorem blk_alloc {w : World} {b : Nat} {x : Obj} (hb : w.heap[b]? = some x) (o : Obj) : (w.alloc o).heap[b]? = some x := by
  rw [Below.heap_alloc w o b (blk_lt hb)]; exact hb
theorem below_drewN {B : Nat} {a w : World} (h : Below B a w) (n : Nat) : Below B a (w.drewN n) := ⟨h.os, h.tape, h.output, h.size, h.block⟩

/-- The block in which an owned value's cells lie is a row of the element type: so it is no block of another type. -/
theorem own_ne {w : World} {B size : Nat} {e T : TypeId} {v : Value} {n : Nat} {xs : List Value} {b : Nat} {cs : Array Value} {fr : Nat × Nat} (hown : w.ownsRow B e size v n xs) (hb : w.heap[b]? = some (.cells cs T fr)) (hTe : T ≠ e) : v.ownBlock ≠ some b := by
  rcases hown.2 with ⟨rfl, _⟩ | ⟨g, cap, cur, rfl, _, hg, _⟩
  · simp [Value.ownBlock]
  · intro h
    simp only [Value.ownBlock, Option.some.injEq] at h
    subst h
    rw [hg] at hb
    simp only [Option.some.injEq, Obj.cells.injEq] at hb
    exact hTe hb.2.1.symm

theorem grown_drew {a b : World} {row : Option Nat} (h : a.grownBy b row) : a.grownBy b.drew row := ⟨h.os, h.tape, h.output, h.size, h.block⟩
theorem grown_any {a b : World} (h : a.grownBy b none) (row : Option Nat) : a.grownBy b row := ⟨h.os, h.tape, h.output, h.size, fun i hi _ => h.block i hi (by simp)⟩

theorem info34 : (Try.prog.info? 34).map (fun i => (i.zero, i.size, i.bytes)) = some (some (.agg #[.slice none 0 0, .int .i64 0]), 2, 32) := by kernel_rfl
theorem info5 : (Try.prog.info? 5).map (fun i => (i.zero, i.size, i.bytes)) = some (some (.int .u8 0), 1, 1) := by kernel_rfl

set_option maxRecDepth 100000 in
set_option maxHeartbeats 400000 in
theorem asIs_any (a : Option Addr) (n c : Nat) (w : World) :
    Calls Try.prog 17 #[.slice a n c] w fun e w' => e = .returned (.agg #[.slice a n c, .int .i64 0]) ∧ w' = w.alloc (.cells #[.slice a n c, .int .i64 0] 34) := by
  go_enter Try.func17, Try.ntmps17
  go_wp2
  refine bodyPost_ret (v := .agg #[.slice a n c, .int .i64 0]) (by simp [results, Try.results17, go_sem]) rfl ⟨rfl, rfl⟩

set_option maxRecDepth 100000 in
set_option maxHeartbeats 2000000 in
set_option linter.unusedSimpArgs false in
/-- flush, where the room holds something. -/
theorem flush_some (b g n cap : Nat) (v : Value) (m : Nat) (xs : List Value) (w : World) (hn : 0 < n) (hc : n ≤ cap) (hm : m ≤ 1000000)
    (hb : w.heap[b]? = some (.cells #[v, .slice (some ⟨g, 0, none⟩) n cap, .int .i64 0] 26 (0, 0))) (hown : w.ownsRow (b + 1) 34 2 v m xs) :
    Calls Try.prog 16 #[.pointer (some ⟨b, 0, none⟩)] w fun e w' => e = .returned (.tuple #[]) ∧
      ∃ (g' cap' : Nat) (w1 : World), w1.ownsRow (b + 1) 34 2 (.slice (some ⟨g', 0, none⟩) (m + 1) cap') (m + 1) (xs ++ [.slice (some ⟨g, 0, none⟩) n n, .int .i64 0]) ∧ w.grownBy w1 v.ownBlock ∧ (v.ownBlock = some g' ∨ w.heap.size ≤ g') ∧
        w1.heap[b]? = some (.cells #[v, .slice (some ⟨g, 0, none⟩) n cap, .int .i64 0] 26 (0, 0)) ∧
        w' = (w1.setCell ⟨b, 0, none⟩ (.slice (some ⟨g', 0, none⟩) (m + 1) cap')).setCell ⟨b, 2, none⟩ (.int .i64 n) := by
  obtain ⟨i0, hi0, hz0, hz1, hz2⟩ := info_parts info34
  have c := blk_cell hb
  have f := blk_frozen hb
  have hlt := blk_lt hb
  have hne : v.ownBlock ≠ some b := own_ne hown hb (by decide)
  have h0 : (0 : Int) < (n : Int) := by omega
  go_enter Try.func16, Try.ntmps16
  go_wp2_with fail
  go_quiet (fail)
  go_wp2_with fail
  have hbW : (w.drewN nq).heap[b]? = some (.cells #[v, .slice (some ⟨g, 0, none⟩) n cap, .int .i64 0] 26 (0, 0)) := hb
  have hownW : (w.drewN nq).ownsRow (b + 1) 34 2 v m xs := hown
  have hgW : w.grownBy (w.drewN nq) none := ⟨rfl, rfl, rfl, Nat.le_refl _, fun _ _ _ => rfl⟩
  clear c f hlt
  generalize w.drewN nq = W at *
  have c := blk_cell hbW
  have f := blk_frozen hbW
  have hlt := blk_lt hbW
  have hc1 : (n : Int) ≤ (cap : Int) := by omega
  refine region_L (S := fun w' => ∀ i, w'.cell? ⟨b, i, none⟩ = #[v, .slice (some ⟨g, 0, none⟩) n cap, .int .i64 0][i]?) (last := 29) (by kernel_rfl) ?_
  have hS : ∀ i, W.drew.cell? ⟨b, i, none⟩ = #[v, .slice (some ⟨g, 0, none⟩) n cap, .int .i64 0][i]? := c
  refine L_take (i := 0) (v := ?v0) rfl (by kernel_rfl) (fun _ _ _ h => h) hS (Or.inl ⟨by rfl, ?y0⟩) ?r0
  case y0 => intro w' hSw; go_simp; try with_reducible rfl
  simp only [Act.put, List.setIfInBounds_toArray, List.set_cons_zero, List.set_cons_succ]
  refine L_take (i := 1) (v := ?v1) rfl (by kernel_rfl) (fun _ _ _ h => h) hS (Or.inl ⟨by rfl, ?y1⟩) ?r1
  case y1 => intro w' hSw; go_simp; try with_reducible rfl
  simp only [Act.put, List.setIfInBounds_toArray, List.set_cons_zero, List.set_cons_succ]
  refine L_take (i := 2) (v := ?v2) rfl (by kernel_rfl) (fun _ _ _ h => h) hS (Or.inl ⟨by rfl, ?y2⟩) ?r2
  case y2 => intro w' hSw; go_simp; try with_reducible rfl
  simp only [Act.put, List.setIfInBounds_toArray, List.set_cons_zero, List.set_cons_succ]
  refine L_take (i := 3) (v := ?v3) rfl (by kernel_rfl) (fun _ _ _ h => h) hS (Or.inl ⟨by rfl, ?y3⟩) ?r3
  case y3 => intro w' hSw; go_simp; try with_reducible rfl
  simp only [Act.put, List.setIfInBounds_toArray, List.set_cons_zero, List.set_cons_succ]
  refine L_take (i := 4) (v := ?v4) rfl (by kernel_rfl) (fun _ _ _ h => h) hS (Or.inl ⟨by rfl, ?y4⟩) ?r4
  case y4 => intro w' hSw; go_simp; try with_reducible rfl
  simp only [Act.put, List.setIfInBounds_toArray, List.set_cons_zero, List.set_cons_succ]
  refine L_take (i := 5) (v := ?v5) rfl (by kernel_rfl) (fun _ _ _ h => h) hS (Or.inl ⟨by rfl, ?y5⟩) ?r5
  case y5 => intro w' hSw; go_simp; try with_reducible rfl
  simp only [Act.put, List.setIfInBounds_toArray, List.set_cons_zero, List.set_cons_succ]
  refine L_take (i := 6) (v := ?v6) rfl (by kernel_rfl) (fun _ _ _ h => h) hS (Or.inl ⟨by rfl, ?y6⟩) ?r6
  case y6 => intro w' hSw; go_simp; try with_reducible rfl
  simp only [Act.put, List.setIfInBounds_toArray, List.set_cons_zero, List.set_cons_succ]
  refine L_take (i := 7) (v := ?v7) rfl (by kernel_rfl) (fun _ _ _ h => h) hS (Or.inl ⟨by rfl, ?y7⟩) ?r7
  case y7 => intro w' hSw; go_simp; try with_reducible rfl
  simp only [Act.put, List.setIfInBounds_toArray, List.set_cons_zero, List.set_cons_succ]
  refine L_take (i := 8) (v := ?v8) rfl (by kernel_rfl) (fun _ _ _ h => h) hS (Or.inl ⟨by rfl, ?y8⟩) ?r8
  case y8 => intro w' hSw; go_simp; try with_reducible rfl
  simp only [Act.put, List.setIfInBounds_toArray, List.set_cons_zero, List.set_cons_succ]
  refine L_take (i := 9) (v := ?v9) rfl (by kernel_rfl) (fun _ _ _ h => h) hS (Or.inl ⟨by rfl, ?y9⟩) ?r9
  case y9 => intro w' hSw; go_simp; try with_reducible rfl
  simp only [Act.put, List.setIfInBounds_toArray, List.set_cons_zero, List.set_cons_succ]
  refine L_take (i := 10) (v := ?v10) rfl (by kernel_rfl) (fun _ _ _ h => h) hS (Or.inl ⟨by rfl, ?y10⟩) ?r10
  case y10 => intro w' hSw; go_simp; try with_reducible rfl
  simp only [Act.put, List.setIfInBounds_toArray, List.set_cons_zero, List.set_cons_succ]
  refine L_take (i := 11) (v := ?v11) rfl (by kernel_rfl) (fun _ _ _ h => h) hS (Or.inl ⟨by rfl, ?y11⟩) ?r11
  case y11 => intro w' hSw; go_simp; try with_reducible rfl
  simp only [Act.put, List.setIfInBounds_toArray, List.set_cons_zero, List.set_cons_succ]
  refine L_take (i := 12) (v := ?v12) rfl (by kernel_rfl) (fun _ _ _ h => h) hS (Or.inl ⟨by rfl, ?y12⟩) ?r12
  case y12 => intro w' hSw; go_simp; try with_reducible rfl
  simp only [Act.put, List.setIfInBounds_toArray, List.set_cons_zero, List.set_cons_succ]
  refine L_take (i := 13) (v := ?v13) rfl (by kernel_rfl) (fun _ _ _ h => h) hS (Or.inl ⟨by rfl, ?y13⟩) ?r13
  case y13 => intro w' hSw; go_simp; try with_reducible rfl
  simp only [Act.put, List.setIfInBounds_toArray, List.set_cons_zero, List.set_cons_succ]
  refine L_take (i := 14) (v := ?v14) rfl (by kernel_rfl) (fun _ _ _ h => h) hS (Or.inl ⟨by rfl, ?y14⟩) ?r14
  case y14 => intro w' hSw; go_simp; try with_reducible rfl
  simp only [Act.put, List.setIfInBounds_toArray, List.set_cons_zero, List.set_cons_succ]
  refine L_take (i := 15) (v := ?v15) rfl (by kernel_rfl) (fun _ _ _ h => h) hS (Or.inl ⟨by rfl, ?y15⟩) ?r15
  case y15 => intro w' hSw; go_simp; try with_reducible rfl
  simp only [Act.put, List.setIfInBounds_toArray, List.set_cons_zero, List.set_cons_succ]
  refine L_take (i := 16) (v := ?v16) rfl (by kernel_rfl) (fun _ _ _ h => h) hS (Or.inl ⟨by rfl, ?y16⟩) ?r16
  case y16 => intro w' hSw; go_simp; try with_reducible rfl
  simp only [Act.put, List.setIfInBounds_toArray, List.set_cons_zero, List.set_cons_succ]
  refine L_take (i := 17) (v := ?v17) rfl (by kernel_rfl) (fun _ _ _ h => h) hS (Or.inl ⟨by rfl, ?y17⟩) ?r17
  case y17 => intro w' hSw; go_simp; try with_reducible rfl
  simp only [Act.put, List.setIfInBounds_toArray, List.set_cons_zero, List.set_cons_succ]
  refine L_take (i := 18) (v := ?v18) rfl (by kernel_rfl) (fun _ _ _ h => h) hS (Or.inl ⟨by rfl, ?y18⟩) ?r18
  case y18 => intro w' hSw; go_simp; try with_reducible rfl
  simp only [Act.put, List.setIfInBounds_toArray, List.set_cons_zero, List.set_cons_succ]
  refine L_take (i := 19) (v := ?v19) rfl (by kernel_rfl) (fun _ _ _ h => h) hS (Or.inl ⟨by rfl, ?y19⟩) ?r19
  case y19 => intro w' hSw; go_simp; try with_reducible rfl
  simp only [Act.put, List.setIfInBounds_toArray, List.set_cons_zero, List.set_cons_succ]
  refine L_take (i := 20) (v := ?v20) rfl (by kernel_rfl) (fun _ _ _ h => h) hS (Or.inl ⟨by rfl, ?y20⟩) ?r20
  case y20 => intro w' hSw; go_simp; try with_reducible rfl
  simp only [Act.put, List.setIfInBounds_toArray, List.set_cons_zero, List.set_cons_succ]
  refine L_take (i := 21) (v := ?v21) rfl (by kernel_rfl) (fun _ _ _ h => h) hS (Or.inl ⟨by rfl, ?y21⟩) ?r21
  case y21 => intro w' hSw; go_simp; try with_reducible rfl
  simp only [Act.put, List.setIfInBounds_toArray, List.set_cons_zero, List.set_cons_succ]
  refine L_take (i := 22) (v := ?v22) rfl (by kernel_rfl) (fun _ _ _ h => h) hS (Or.inl ⟨by rfl, ?y22⟩) ?r22
  case y22 => intro w' hSw; go_simp; try with_reducible rfl
  simp only [Act.put, List.setIfInBounds_toArray, List.set_cons_zero, List.set_cons_succ]
  refine L_take (i := 23) (v := ?v23) rfl (by kernel_rfl) (fun _ _ _ h => h) hS (Or.inl ⟨by rfl, ?y23⟩) ?r23
  case y23 => intro w' hSw; go_simp; try with_reducible rfl
  simp only [Act.put, List.setIfInBounds_toArray, List.set_cons_zero, List.set_cons_succ]
  refine L_only (i := 24) (by kernel_rfl) rfl rfl (fun K hK => ?_)
  go_simp
  refine (asIs_any _ _ _ _).mono ?_
  rintro e w' ⟨rfl, rfl⟩
  have hb1 := blk_alloc (w := W.drew) hbW (.cells #[.slice (some ⟨g, 0, none⟩) n n, .int .i64 0] 34)
  refine hK _ _ (fun _ => blk_cell hb1) ?_
  clear hK K
  refine L_only (i := 25) (by kernel_rfl) rfl rfl (fun K hK => ?_)
  go_simp
  have hb2 : (((W.alloc (.cells #[.slice (some ⟨g, 0, none⟩) n n, .int .i64 0] 34)).alloc (.cells #[.slice (some ⟨g, 0, none⟩) n n, .int .i64 0] 34)).drew).heap[b]? = _ := blk_alloc (blk_alloc hbW _) _
  have hown2 : (((W.alloc (.cells #[.slice (some ⟨g, 0, none⟩) n n, .int .i64 0] 34)).alloc (.cells #[.slice (some ⟨g, 0, none⟩) n n, .int .i64 0] 34)).drew).ownsRow (b + 1) 34 2 v m xs := ((hownW.alloc _).alloc _).drew
  have hnews : (((W.alloc (.cells #[.slice (some ⟨g, 0, none⟩) n n, .int .i64 0] 34)).alloc (.cells #[.slice (some ⟨g, 0, none⟩) n n, .int .i64 0] 34)).drew).heap[W.heap.size + 1]? = some (.cells #[.slice (some ⟨g, 0, none⟩) n n, .int .i64 0] 34 (0, 0)) := by
    have := heap_alloc_new (W.alloc (.cells #[.slice (some ⟨g, 0, none⟩) n n, .int .i64 0] 34)) (.cells #[.slice (some ⟨g, 0, none⟩) n n, .int .i64 0] 34)
    simp only [World.size_alloc] at this
    exact this
  have hg2 : w.grownBy (((W.alloc (.cells #[.slice (some ⟨g, 0, none⟩) n n, .int .i64 0] 34)).alloc (.cells #[.slice (some ⟨g, 0, none⟩) n n, .int .i64 0] 34)).drew) none :=
    grown_drew ((hgW.trans (World.grownBy_alloc _ _ _)).trans (World.grownBy_alloc _ _ _))
  have hz : (((W.alloc (.cells #[.slice (some ⟨g, 0, none⟩) n n, .int .i64 0] 34)).alloc (.cells #[.slice (some ⟨g, 0, none⟩) n n, .int .i64 0] 34)).drew).heap.size = W.heap.size + 1 + 1 := by simp
  refine hK _ _ (fun _ => blk_cell hb2) ?_
  clear hK K
  generalize (((W.alloc (.cells #[.slice (some ⟨g, 0, none⟩) n n, .int .i64 0] 34)).alloc (.cells #[.slice (some ⟨g, 0, none⟩) n n, .int .i64 0] 34)).drew) = W2 at *
  refine L_only (i := 26) (by kernel_rfl) rfl rfl (fun K hK => ?_)
  refine wp_append_lies W2 (.tmp 16) (.tmp 37) 23 rfl (b + 1) 34 i0 _ 2 32 Try.underlying23 hi0 hz0 hz1 hz2 rfl (by omega) v m xs rfl hown2 ⟨W.heap.size + 1, 0, none⟩ 1 1 [.slice (some ⟨g, 0, none⟩) n n, .int .i64 0] rfl rfl (World.news_of_block hnews) (by simp [Value.oneCell']) (by omega) (by unfold maxLen; omega) (by omega) (by omega) W2.heap.size rfl ?_
  intro g' cap' w1 hown1 hgrow hat hlt1
  have hb3 : w1.heap[b]? = some (.cells #[v, .slice (some ⟨g, 0, none⟩) n cap, .int .i64 0] 26 (0, 0)) := (hgrow.block b (blk_lt hb2) (fun e => hne e.symm)).trans hb2
  have hg3 : w.grownBy w1 v.ownBlock := (grown_any hg2 _).trans hgrow
  have hat3 : v.ownBlock = some g' ∨ w.heap.size ≤ g' := hat.imp id (fun h => by have := hg2.size; omega)
  refine hK _ _ (fun _ => blk_cell hb3) ?_
  clear hK K hgrow hat hlt1 hb2 hown2 hnews hg2 hz hS hb1
  simp only [Act.put, List.setIfInBounds_toArray, List.set_cons_zero, List.set_cons_succ]
  have c3 := blk_cell hb3
  have f3 := blk_frozen hb3
  refine L_only (i := 27) (by kernel_rfl) rfl rfl (fun K hK => ?_)
  go_simp
  refine hK _ _ (fun _ => c3) ?_
  clear hK K
  refine L_only (i := 28) (by kernel_rfl) rfl rfl (fun K hK => ?_)
  go_simp
  refine hK _ _ (fun _ => c3) ?_
  clear hK K
  refine L_only (i := 29) (by kernel_rfl) rfl rfl (fun K hK => ?_)
  go_simp
  refine hK _ _ (fun h => absurd rfl h) ?_
  clear hK K
  refine L_done (by kernel_rfl) ?_ _
  go_wp2_with fail
  go_end0
  exact ⟨rfl, g', cap', w1, hown1, hg3, hat3, hb3, rfl⟩

set_option maxRecDepth 100000 in
set_option maxHeartbeats 400000 in
/-- flush, where the room holds nothing. -/
theorem flush_none (b cap : Nat) (v : Value) (ao : Option Addr) (w : World)
    (hb : w.heap[b]? = some (.cells #[v, .slice ao 0 cap, .int .i64 0] 26 (0, 0))) :
    Calls Try.prog 16 #[.pointer (some ⟨b, 0, none⟩)] w fun e w' => e = .returned (.tuple #[]) ∧ ∃ n, w' = w.drewN n := by
  have c := blk_cell hb
  go_enter Try.func16, Try.ntmps16
  go_wp2_with fail
  go_quiet (fail)
  go_wp2_with fail
  go_end0
  exact ⟨rfl, _, rfl⟩
end Go.Proofs.Qxb6612511a
