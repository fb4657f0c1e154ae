import Derived.Test.Qxb6612485aBegin
namespace Go.Proofs.Qxb6612485a
open Go.RowKit

theorem info88all : ∃ (i : TypeInfo) (z : Value), Try.prog.info? 88 = some i ∧ i.zero = some z ∧ i.size = 16 ∧ i.bytes = 192 := by
  have hi0 := info88
  cases hi : Try.prog.info? 88 with
  | none => rw [hi] at hi0; cases hi0
  | some i =>
    have hz0 := info88z
    rw [hi] at hi0 hz0
    simp at hi0 hz0
    obtain ⟨z, hz⟩ := Option.ne_none_iff_exists'.1 hz0
    exact ⟨i, z, rfl, hz, hi0.1, hi0.2⟩

set_option maxRecDepth 100000 in
set_option maxHeartbeats 2000000 in
theorem begin_more (b o r t : Nat) (w : World) (hb : w.heap[b]? = some (.cells (cs0 o r t) 69 (0, 0))) (ho : o ≤ 65536) (ht : t ≤ 65536) (h1 : 0 < r) (h2 : r < o) :
    Calls Try.prog 14 #[.pointer (some ⟨b, 0, none⟩)] w fun e w' => e = .returned (.tuple #[]) ∧ Left b o r t (r + 1) w w' := by
  have c := blk_cell hb
  obtain ⟨i88, z88, hi, hz, hs, hby⟩ := info88all
  have hd : (r : Int) < (o : Int) := by omega
  have hd1 : ((r : Int) + 1 == 1) = false := by simp; omega
  go_enter Try.func14, Try.ntmps14
  go_wp2_with fail
  go_quiet (fail)
  go_wp2_with (at_make; refine wpList_make_own _ rfl _ _ 46 rfl 0 88 i88 z88 16 Try.underlying46 hi hz hs .i64 .i64 _ (r + 1) rfl rfl (by omega) ?b2 ?b3 ?b4 ?_)
  case b2 => rw [hby]; omega
  case b3 => unfold maxLen; omega
  case b4 => exact Nat.zero_le _
  intro w1 hown hgrow
  have hb1 : w1.heap[b]? = some (.cells (cs0 _ r t) 69 (0, 0)) := (hgrow.block b (blk_lt (blk_drewN hb nq)) (by simp)).trans (blk_drewN hb nq)
  have hbel1 : Below b w w1 := (below_drewN (Below.refl b w) nq).grown hgrow (Nat.le_of_lt (blk_lt (blk_drewN hb nq))) (fun k hk => by cases hk)
  clear hown hgrow
  have c1 := blk_cell hb1
  have f1 := blk_frozen hb1
  have hlt := blk_lt hb1
  go_wp2_with fail
  have hb2 := blk_alloc (blk_set (blk_set hb1 0 (.slice (some ⟨w.heap.size, 0, none⟩) 0 (r + 1))) 1 (.slice (some ⟨w1.heap.size, 0, none⟩) 0 0)) (.cells #[] 115)
  have hbel2 : Below b w (((w1.setCell ⟨b, 0, none⟩ (.slice (some ⟨w.heap.size, 0, none⟩) 0 (r + 1))).setCell ⟨b, 1, none⟩ (.slice (some ⟨w1.heap.size, 0, none⟩) 0 0)).alloc (.cells #[] 115)) := ((hbel1.setCell (p := ⟨b, 0, none⟩) (Nat.le_refl b) _).setCell (p := ⟨b, 1, none⟩) (Nat.le_refl b) _).alloc (by simp [World.setCell]; omega) _
  generalize ((w1.setCell ⟨b, 0, none⟩ (.slice (some ⟨w.heap.size, 0, none⟩) 0 (r + 1))).setCell ⟨b, 1, none⟩ (.slice (some ⟨w1.heap.size, 0, none⟩) 0 0)).alloc (.cells #[] 115) = W2 at *
  have c2 : W2.cell? ⟨b, 19, none⟩ = some (.int .i64 t) := (blk_cell hb2 19).trans rfl
  clear c1 f1 hb1 c
  go_region_held3 (fun w' => w'.cell? ⟨b, 19, none⟩ = some (.int .i64 t)) (first | exact c2 | exact (blk_cell hb3 19).trans rfl)
    ((go_at_call 19; refine (reserveText_fresh b t _ W2.drew hb2 rfl rfl rfl ht).mono ?_; rintro e w' ⟨rfl, ao, cap, hcap, hb3, hbel3⟩))
  go_wp2_with fail
  go_end0
  exact ⟨rfl, ⟨w.heap.size, 0, none⟩, ⟨w1.heap.size, 0, none⟩, ao, none, none, cap, 0, hcap, (by rw [if_neg (by omega)]), hb3, (hbel2.drew).trans hbel3⟩

set_option maxRecDepth 100000 in
set_option maxHeartbeats 2000000 in
theorem begin_same (b o r t : Nat) (w : World) (hb : w.heap[b]? = some (.cells (cs0 o r t) 69 (0, 0))) (ho : o ≤ 65536) (ht : t ≤ 65536) (h1 : r ≠ 1) (h2 : r = o) :
    Calls Try.prog 14 #[.pointer (some ⟨b, 0, none⟩)] w fun e w' => e = .returned (.tuple #[]) ∧ Left b o r t (r) w w' := by
  have c := blk_cell hb
  obtain ⟨i88, z88, hi, hz, hs, hby⟩ := info88all
  have hd1 : ((r : Int) == 1) = false := by simp; omega
  subst h2
  go_enter Try.func14, Try.ntmps14
  go_wp2_with fail
  go_quiet (fail)
  go_wp2_with (at_make; refine wpList_make_own _ rfl _ _ 46 rfl 0 88 i88 z88 16 Try.underlying46 hi hz hs .i64 .i64 _ (r) rfl rfl (by omega) ?b2 ?b3 ?b4 ?_)
  case b2 => rw [hby]; omega
  case b3 => unfold maxLen; omega
  case b4 => exact Nat.zero_le _
  intro w1 hown hgrow
  have hb1 : w1.heap[b]? = some (.cells (cs0 _ r t) 69 (0, 0)) := (hgrow.block b (blk_lt (blk_drewN hb nq)) (by simp)).trans (blk_drewN hb nq)
  have hbel1 : Below b w w1 := (below_drewN (Below.refl b w) nq).grown hgrow (Nat.le_of_lt (blk_lt (blk_drewN hb nq))) (fun k hk => by cases hk)
  clear hown hgrow
  have c1 := blk_cell hb1
  have f1 := blk_frozen hb1
  have hlt := blk_lt hb1
  go_wp2_with fail
  have hb2 := blk_alloc (blk_set (blk_set hb1 0 (.slice (some ⟨w.heap.size, 0, none⟩) 0 (r))) 1 (.slice (some ⟨w1.heap.size, 0, none⟩) 0 0)) (.cells #[] 115)
  have hbel2 : Below b w (((w1.setCell ⟨b, 0, none⟩ (.slice (some ⟨w.heap.size, 0, none⟩) 0 (r))).setCell ⟨b, 1, none⟩ (.slice (some ⟨w1.heap.size, 0, none⟩) 0 0)).alloc (.cells #[] 115)) := ((hbel1.setCell (p := ⟨b, 0, none⟩) (Nat.le_refl b) _).setCell (p := ⟨b, 1, none⟩) (Nat.le_refl b) _).alloc (by simp [World.setCell]; omega) _
  generalize ((w1.setCell ⟨b, 0, none⟩ (.slice (some ⟨w.heap.size, 0, none⟩) 0 (r))).setCell ⟨b, 1, none⟩ (.slice (some ⟨w1.heap.size, 0, none⟩) 0 0)).alloc (.cells #[] 115) = W2 at *
  have c2 : W2.cell? ⟨b, 19, none⟩ = some (.int .i64 t) := (blk_cell hb2 19).trans rfl
  clear c1 f1 hb1 c
  go_region_held3 (fun w' => w'.cell? ⟨b, 19, none⟩ = some (.int .i64 t)) (first | exact c2 | exact (blk_cell hb3 19).trans rfl)
    ((go_at_call 19; refine (reserveText_fresh b t _ W2.drew hb2 rfl rfl rfl ht).mono ?_; rintro e w' ⟨rfl, ao, cap, hcap, hb3, hbel3⟩))
  go_wp2_with fail
  go_end0
  exact ⟨rfl, ⟨w.heap.size, 0, none⟩, ⟨w1.heap.size, 0, none⟩, ao, none, none, cap, 0, hcap, (by rw [if_neg (by omega)]), hb3, (hbel2.drew).trans hbel3⟩

end Go.Proofs.Qxb6612485a
