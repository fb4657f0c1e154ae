import Derived.Test.Qxb6612394aTake
namespace Go.Proofs.Qxb6612394a
open Go.RowKit Go.Maps
open Go.MuLone
attribute [local go_sem ↓] Go.wp_at_zero Go.wp_at_succ

theorem info31 : (Try.prog.info? 31).map (fun i => (i.zero, i.size, i.bytes)) = some (some (.pointer none), 1, 8) := by kernel_rfl
theorem own_low {w : World} {B size : Nat} {e : TypeId} {v : Value} {n : Nat} {xs : List Value} (hown : w.ownsRow B e size v n xs) {k : Nat} (hk : k < B) : some k ≠ v.ownBlock := fun h => by
  have := (hown.lt k h.symm).1
  omega

set_option maxRecDepth 100000 in
set_option maxHeartbeats 2000000 in
set_option linter.unusedSimpArgs false in
/-- put: the connection is kept, behind those kept already. -/
theorem put_any (cb mb n B m c0 : Nat) (v : Value) (xs : List Value) (f : ByteArray → Value) (h : ByteArray) (w : World) (hh : h.size ≤ maxLen) (hn : n < maxLen) (hb : w.heap[cb]? = some (.cells (CL mb 0) 51 (0, 0))) (hm : MapSt w mb n f) (hne : mb ≠ cb)
    (hf : f h = v) (hown : w.ownsRow B 31 1 v m xs) (hm1 : m ≤ 2000000) (hcB : cb < B) (hmB : mb < B) (hBw : B ≤ w.heap.size) :
    Calls Try.prog 10 #[.pointer (some ⟨cb, 0, none⟩), .string h, .pointer (some ⟨c0, 0, none⟩)] w fun e w' => e = .returned (.tuple #[]) ∧ ∃ g' cap', w'.ownsRow B 31 1 (.slice (some ⟨g', 0, none⟩) (m + 1) cap') (m + 1) (xs ++ [.pointer (some ⟨c0, 0, none⟩)]) ∧
      MapSt w' mb (n + 1) (upd f h (.slice (some ⟨g', 0, none⟩) (m + 1) cap')) ∧ (v.ownBlock = some g' ∨ w.heap.size ≤ g') ∧ Kept2 w w' mb v.ownBlock := by
  obtain ⟨i0, hi0, hz0, hz1, hz2⟩ := info_parts info31
  have c := blk_cell hb
  have fz := blk_frozen hb
  have l := blk_lt hb
  go_enter_defers Try.func10, Try.ntmps10
  go_wp2_with fail
  refine (lock_free Try.muLib ⟨cb, 3, none⟩ w (c 3) (fz 3)).mono ?_
  rintro e w1 ⟨rfl, hw1⟩
  have hb1 : w1.heap[cb]? = some (.cells (CL mb 1) 51 (0, 0)) := by rw [hw1]; exact blk_set hb 3 _
  have hmm : MapSt w1 mb n f := hm.kept (by rw [hw1]; exact heap_set _ _ _ _ hne)
  have hk1 : ∀ w2 : World, Kept2 w1 w2 mb v.ownBlock → w2.heap[cb]? = some (.cells (CL mb 1) 51 (0, 0)) → Kept2 w (w2.setCell ⟨cb, 3, none⟩ (.int .i32 0)) mb v.ownBlock := fun w2 k1 k2 => kept_lock hb k2 (by rw [← hw1]; exact k1)
  have ho1 : w1.ownsRow B 31 1 v m xs := by rw [hw1]; exact ownsRow_setCell_below hown (a := ⟨cb, 3, none⟩) hcB _
  have HS : Hid (w1.heap.size = w.heap.size) := (by rw [hw1, size_set] : w1.heap.size = w.heap.size)
  clear hw1 c fz l hb hm hown
  have c := blk_cell hb1
  have fz := blk_frozen hb1
  have l := blk_lt hb1
  go_wp2_with fail
  refine Code.wp_mono NoPanic.imp ?_
  refine region_L (S := fun w' => (∀ i, w'.cell? ⟨cb, i, none⟩ = (CL mb 1)[i]?) ∧ MapSt w' mb n f) (last := 14) (by kernel_rfl) ?_
  have hS : (∀ i, w1.drew.cell? ⟨cb, i, none⟩ = (CL mb 1)[i]?) ∧ MapSt w1.drew mb n f := ⟨c, hmm⟩
  refine L_take (i := 0) (v := ?v0) rfl (by kernel_rfl) (fun _ _ _ h => h.elim) hS (Or.inl ⟨by rfl, ?y0⟩) ?r0
  case y0 => rintro w' ⟨hS1, hS2⟩; go_simp; try with_reducible rfl
  simp only [Act.put, List.setIfInBounds_toArray, List.set_cons_zero, List.set_cons_succ]
  refine L_take (i := 1) (v := ?v1) rfl (by kernel_rfl) (fun _ _ _ h => h.elim) hS (Or.inl ⟨by rfl, ?y1⟩) ?r1
  case y1 => rintro w' ⟨hS1, hS2⟩; go_simp; try with_reducible rfl
  simp only [Act.put, List.setIfInBounds_toArray, List.set_cons_zero, List.set_cons_succ]
  refine L_take (i := 2) (v := ?v2) rfl (by kernel_rfl) (fun _ _ _ h => h.elim) hS (Or.inl ⟨by rfl, ?y2⟩) ?r2
  case y2 => rintro w' ⟨hS1, hS2⟩; go_simp; try with_reducible rfl
  simp only [Act.put, List.setIfInBounds_toArray, List.set_cons_zero, List.set_cons_succ]
  refine L_take (i := 3) (v := ?v3) rfl (by kernel_rfl) (fun _ _ _ h => h.elim) hS (Or.inl ⟨by rfl, ?y3⟩) ?r3
  case y3 => rintro w' ⟨hS1, hS2⟩; go_simp; try with_reducible rfl
  simp only [Act.put, List.setIfInBounds_toArray, List.set_cons_zero, List.set_cons_succ]
  refine L_take (i := 4) (v := ?v4) rfl (by kernel_rfl) (fun _ _ _ h => h.elim) hS (Or.inl ⟨by rfl, ?y4⟩) ?r4
  case y4 => rintro w' ⟨hS1, hS2⟩; go_simp; try with_reducible rfl
  simp only [Act.put, List.setIfInBounds_toArray, List.set_cons_zero, List.set_cons_succ]
  refine L_take (i := 5) (v := ?v5) rfl (by kernel_rfl) (fun _ _ _ h => h.elim) hS (Or.inl ⟨by rfl, ?y5⟩) ?r5
  case y5 => rintro w' ⟨hS1, hS2⟩; go_simp; try with_reducible rfl
  simp only [Act.put, List.setIfInBounds_toArray, List.set_cons_zero, List.set_cons_succ]
  refine L_take (i := 6) (v := ?v6) rfl (by kernel_rfl) (fun _ _ _ h => h.elim) hS (Or.inl ⟨by rfl, ?y6⟩) ?r6
  case y6 => rintro w' ⟨hS1, hS2⟩; go_simp; try with_reducible rfl
  simp only [Act.put, List.setIfInBounds_toArray, List.set_cons_zero, List.set_cons_succ]
  refine L_take (i := 7) (v := ?v7) rfl (by kernel_rfl) (fun _ _ _ h => h.elim) hS (Or.inl ⟨by rfl, ?y7⟩) ?r7
  case y7 => rintro w' ⟨hS1, hS2⟩; go_simp; try with_reducible rfl
  simp only [Act.put, List.setIfInBounds_toArray, List.set_cons_zero, List.set_cons_succ]
  refine L_take (i := 8) (v := ?v8) rfl (by kernel_rfl) (fun _ _ _ h => h.elim) hS (Or.inl ⟨by rfl, ?y8⟩) ?r8
  case y8 => rintro w' ⟨hS1, hS2⟩; go_simp; try with_reducible rfl
  simp only [Act.put, List.setIfInBounds_toArray, List.set_cons_zero, List.set_cons_succ]
  refine L_take (i := 9) (v := ?v9) rfl (by kernel_rfl) (fun _ _ _ h => h.elim) hS (Or.inl ⟨by rfl, ?y9⟩) ?r9
  case y9 => rintro w' ⟨hS1, hS2⟩; go_simp; try with_reducible rfl
  simp only [Act.put, List.setIfInBounds_toArray, List.set_cons_zero, List.set_cons_succ]
  refine L_take (i := 10) (v := ?v10) rfl (by kernel_rfl) (fun _ _ _ h => h.elim) hS (Or.inl ⟨by rfl, ?y10⟩) ?r10
  case y10 => rintro w' ⟨hS1, hS2⟩; have hl' := hS2.look hh; rw [hf] at hl'; go_simp; try with_reducible rfl
  simp only [Act.put, List.setIfInBounds_toArray, List.set_cons_zero, List.set_cons_succ]
  refine L_take (i := 11) (v := ?v11) rfl (by kernel_rfl) (fun _ _ _ h => h.elim) hS (Or.inl ⟨by rfl, ?y11⟩) ?r11
  case y11 => rintro w' ⟨hS1, hS2⟩; go_simp; try with_reducible rfl
  simp only [Act.put, List.setIfInBounds_toArray, List.set_cons_zero, List.set_cons_succ]
  refine L_only (i := 12) (by kernel_rfl) rfl rfl (fun K hK => ?_)
  go_simp
  have hb2 : (w1.alloc (.cells #[.pointer (some ⟨c0, 0, none⟩)] 31)).drew.heap[cb]? = some (.cells (CL mb 1) 51 (0, 0)) := blk_alloc hb1 _
  have hm2 : MapSt (w1.alloc (.cells #[.pointer (some ⟨c0, 0, none⟩)] 31)).drew mb n f := hmm.kept (Below.heap_alloc w1 _ mb hmm.lt)
  have ho2 : (w1.alloc (.cells #[.pointer (some ⟨c0, 0, none⟩)] 31)).drew.ownsRow B 31 1 v m xs := (ho1.alloc _).drew
  have hn2 : (w1.alloc (.cells #[.pointer (some ⟨c0, 0, none⟩)] 31)).drew.heap[w1.heap.size]? = some (.cells #[.pointer (some ⟨c0, 0, none⟩)] 31 (0, 0)) := heap_alloc_new w1 _
  have hs2 : (w1.alloc (.cells #[.pointer (some ⟨c0, 0, none⟩)] 31)).drew.heap.size = w1.heap.size + 1 := by simp
  have hk2 : Kept2 w1 (w1.alloc (.cells #[.pointer (some ⟨c0, 0, none⟩)] 31)).drew mb v.ownBlock := ⟨rfl, rfl, rfl, by rw [hs2]; omega, fun k k1 _ _ => Below.heap_alloc w1 _ k k1⟩
  refine hK _ _ (fun _ => ⟨blk_cell hb2, hm2⟩) ?_
  clear hK K hS
  generalize (w1.alloc (.cells #[.pointer (some ⟨c0, 0, none⟩)] 31)).drew = W2 at *
  refine L_only (i := 13) (by kernel_rfl) rfl rfl (fun K hK => ?_)
  refine wp_append_lies W2 (.tmp 32) (.tmp 34) 34 rfl B 31 i0 _ 1 8 Try.underlying34 hi0 hz0 hz1 hz2 rfl (by decide) v m xs rfl ho2 ⟨w1.heap.size, 0, none⟩ 1 1 [.pointer (some ⟨c0, 0, none⟩)] rfl rfl (World.news_of_block hn2) (by simp [Value.oneCell']) (by omega) (by unfold maxLen; omega) (by omega) (by have := HS.out; omega) W2.heap.size rfl ?_
  intro g' cap' w3 ho3 hgrow hat hlt3
  have hb3 : w3.heap[cb]? = some (.cells (CL mb 1) 51 (0, 0)) := (hgrow.block cb (blk_lt hb2) (own_low ho2 hcB)).trans hb2
  have hm3 : MapSt w3 mb n f := hm2.kept (hgrow.block mb hm2.lt (own_low ho2 hmB))
  have hk3 : Kept2 w1 w3 mb v.ownBlock := ⟨hgrow.os.trans hk2.os, hgrow.tape.trans hk2.tape, hgrow.output.trans hk2.output, Nat.le_trans hk2.size hgrow.size, fun k k1 k2 k3 => (hgrow.block k (Nat.lt_of_lt_of_le k1 hk2.size) k3).trans (hk2.block k k1 k2 k3)⟩
  have hat3 : v.ownBlock = some g' ∨ w.heap.size ≤ g' := hat.imp id (fun e => by have := HS.out; omega)
  refine hK _ _ (fun _ => ⟨blk_cell hb3, hm3⟩) ?_
  clear hK K hgrow hat hb2 hm2 ho2 hn2 hs2 hk2
  simp only [Act.put, List.setIfInBounds_toArray, List.set_cons_zero, List.set_cons_succ]
  obtain ⟨w4, hrun, hm4, hturn⟩ := hm3.store hn hh (.slice (some ⟨g', 0, none⟩) (m + 1) cap')
  refine L_only (i := 14) (by kernel_rfl) rfl rfl (fun K hK => ?_)
  go_simp
  refine hK _ _ (fun h => absurd rfl h) ?_
  clear hK K
  refine L_done (by kernel_rfl) (NoPanic.normal ?_) _
  have hb4 : w4.heap[cb]? = some (.cells (CL mb 1) 51 (0, 0)) := (hturn.grown.block cb (blk_lt hb3) (fun e => hne (Option.some.inj e).symm)).trans hb3
  have hk4 : Kept2 w1 w4 mb v.ownBlock := ⟨hturn.grown.os.trans hk3.os, hturn.grown.tape.trans hk3.tape, hturn.grown.output.trans hk3.output, Nat.le_trans hk3.size hturn.grown.size, fun k k1 k2 k3 => (hturn.grown.block k (Nat.lt_of_lt_of_le k1 hk3.size) (fun e => k2 (Option.some.inj e))).trans (hk3.block k k1 k2 k3)⟩
  have ho4 := ho3.kept hturn.grown (.inr (fun e => by have := (ho3.lt mb e).1; omega))
  clear c fz l
  have c := blk_cell hb4
  have fz := blk_frozen hb4
  have l := blk_lt hb4
  go_wp2_with fail
  refine leaves_cons (f := 13) (args := #[.pointer (some ⟨cb, 3, none⟩)]) (by simp) (by simp [go_sem]) ?_
  refine (unlock_deferred Try.muLib ⟨cb, 3, none⟩ .returning _ (c 3) (fz 3)).mono ?_
  rintro e u' w2 ⟨rfl, rfl, rfl⟩
  exact ⟨_, results_none rfl _ _ _, rfl, g', cap', ownsRow_setCell_below ho4 (a := ⟨cb, 3, none⟩) hcB _, hm4.kept (heap_set _ _ _ _ hne), hat3, hk1 w4 hk4 hb4⟩
end Go.Proofs.Qxb6612394a
