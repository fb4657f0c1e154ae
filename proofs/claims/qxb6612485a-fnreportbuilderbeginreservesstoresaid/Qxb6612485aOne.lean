import Derived.Test.Qxb6612485aText
namespace Go.Proofs.Qxb6612485a
open Go.RowKit

set_option maxRecDepth 100000 in
set_option maxHeartbeats 1000000 in
theorem useValues_any (b r : Nat) (w : World) (v6 v10 : Value) (c6 : w.cell? ⟨b, 6, none⟩ = some v6) (c10 : w.cell? ⟨b, 10, none⟩ = some v10) (f6 : w.frozen? ⟨b, 6, none⟩ = false) (f10 : w.frozen? ⟨b, 10, none⟩ = false) :
    Calls Try.prog 20 #[.pointer (some ⟨b, 2, none⟩), .pointer (some ⟨r, 16, none⟩)] w fun e w' => e = .returned (.tuple #[]) ∧
      w' = ((w.setCell ⟨b, 6, none⟩ (.slice (some ⟨r, 16, none⟩) 2 2)).setCell ⟨b, 10, none⟩ (.slice (some ⟨r, 22, none⟩) 2 2)).drew := by
  go_enter Try.func20, Try.ntmps20
  go_wp2
  go_region_held3 (fun _ => True) (trivial) (fail)
  all_goals (go_wp2; go_end0; exact ⟨rfl, rfl⟩)

set_option maxRecDepth 100000 in
set_option maxHeartbeats 1000000 in
theorem reserveOne_any (b : Nat) (w : World) (cs : Array Value) (hb : w.heap[b]? = some (.cells cs 69 (0, 0))) (v6 v10 : Value) (h6 : cs[6]? = some v6) (h10 : cs[10]? = some v10) :
    Calls Try.prog 18 #[.pointer (some ⟨b, 2, none⟩)] w fun e w' => e = .returned (.slice (some ⟨w.heap.size, 0, none⟩) 0 1) ∧
      w'.heap[b]? = some (.cells ((cs.setIfInBounds 6 (.slice (some ⟨w.heap.size, 16, none⟩) 2 2)).setIfInBounds 10 (.slice (some ⟨w.heap.size, 22, none⟩) 2 2)) 69 (0, 0)) ∧ Below b w w' := by
  have hlt := blk_lt hb
  go_enter Try.func18, Try.ntmps18
  go_wp2_with fail
  refine (useValues_any b w.heap.size _ v6 v10 ?_ ?_ ?_ ?_).mono ?_
  · exact (blk_cell (blk_alloc hb _) 6).trans h6
  · exact (blk_cell (blk_alloc hb _) 10).trans h10
  · exact blk_frozen (blk_alloc hb _) 6
  · exact blk_frozen (blk_alloc hb _) 10
  rintro e w' ⟨rfl, rfl⟩
  go_wp2_with fail
  go_ret
  refine ⟨rfl, ?_, ?_⟩
  · exact blk_alloc (blk_set (blk_set hb 6 _) 10 _) _
  · exact ((((Below.refl b w).setCell (p := ⟨b, 6, none⟩) (Nat.le_refl b) _).setCell (p := ⟨b, 10, none⟩) (Nat.le_refl b) _).alloc (by simp [World.setCell]; omega) _).drew
set_option maxRecDepth 100000 in
set_option maxHeartbeats 1000000 in
theorem reserveText_fresh (b n : Nat) (cs : Array Value) (w : World) (hb : w.heap[b]? = some (.cells cs 69 (0, 0))) (hsz : cs.size = 22) (h2 : cs[2]? = some (.pointer none)) (h3 : cs[3]? = some (.slice none 0 0)) (hn : n ≤ 65536) :
    Calls Try.prog 19 #[.pointer (some ⟨b, 2, none⟩), .int .i64 n] w fun e w' => e = .returned (.tuple #[]) ∧
      ∃ (ao : Option Addr) (cap : Nat), n ≤ cap ∧ w'.heap[b]? = some (.cells ((cs.setIfInBounds 2 (.pointer (some ⟨b, 2, none⟩))).setIfInBounds 3 (.slice ao 0 cap)) 69 (0, 0)) ∧ Below b w w' := by
  go_enter Try.func19, Try.ntmps19
  go_wp2_with fail
  refine (Grow_fresh b n cs w hb hsz h2 h3 hn).mono ?_
  rintro e w' ⟨rfl, ao, cap, h⟩
  go_wp2_with fail
  go_end0
  exact ⟨rfl, ao, cap, h⟩
end Go.Proofs.Qxb6612485a
