import Derived.Test.Qxb6612485aMany
namespace Go.Proofs.Qxb6612485a
open Go.RowKit

/-- The room of the Report. -/
def roomOf (o r : Nat) : Nat := if r < o then r + 1 else r

/-- How many addresses and ids a store of that room holds. -/
def naOf (R : Nat) : Nat := if R = 1 then 2 else 0

theorem begin_any (b o r t : Nat) (w : World) (hb : w.heap[b]? = some (.cells (cs0 o r t) 69 (0, 0))) (ho : o ≤ 65536) (hro : r ≤ o) (ht : t ≤ 65536) :
    Calls Try.prog 14 #[.pointer (some ⟨b, 0, none⟩)] w fun e w' => e = .returned (.tuple #[]) ∧ Left b o r t (roomOf o r) w w' := by
  unfold roomOf
  by_cases h : r < o
  · rw [if_pos h]
    by_cases h0 : r = 0
    · have e : r + 1 = 1 := by omega
      rw [e]
      exact begin_one b o r t w hb ho ht (.inl ⟨h0, h⟩)
    · exact begin_more b o r t w hb ho ht (by omega) h
  · rw [if_neg h]
    by_cases h1 : r = 1
    · rw [h1] at hb ⊢
      exact begin_one b o 1 t w hb ho ht (.inr ⟨rfl, by omega⟩)
    · exact begin_same b o r t w hb ho ht h1 (by omega)

set_option maxRecDepth 100000 in
set_option maxHeartbeats 4000000 in
theorem report_any (o r t : Nat) (w : World) (ho : o ≤ 65536) (hro : r ≤ o) (ht : t ≤ 65536) :
    Calls Try.prog 6 #[.int .i64 o, .int .i64 r, .int .i64 t] w fun e w' => ∃ cap : Nat, t ≤ cap ∧
      e = .returned (.tuple #[.bool false, .int .i64 0, .int .i64 (roomOf o r), .bool false, .int .i64 0, .int .i64 cap, .int .i64 0, .int .i64 (naOf (roomOf o r)), .int .i64 (naOf (roomOf o r))]) ∧ Below w.heap.size w w' := by
  have q46 : ∀ (w : World) (a : Option Addr) (n c : Nat), (binOp .eql 46 (.slice a n c) (.slice none 0 0)).run Try.prog w = .ok (.bool a.isNone) w := fun w a n c => Lib.run_eql_slice_nil w _ _ a n c 0 0 Try.underlying46
  have q47 : ∀ (w : World) (a : Option Addr) (n c : Nat), (binOp .eql 47 (.slice a n c) (.slice none 0 0)).run Try.prog w = .ok (.bool a.isNone) w := fun w a n c => Lib.run_eql_slice_nil w _ _ a n c 0 0 Try.underlying47
  have hb0 : (w.alloc (.cells (cs0 o r t) 69)).heap[w.heap.size]? = some (.cells (cs0 o r t) 69 (0, 0)) := heap_alloc_new w _
  have hbel0 : Below w.heap.size w (w.alloc (.cells (cs0 o r t) 69)) := (Below.refl _ _).alloc (Nat.le_refl _) _
  go_enter Try.func6, Try.ntmps6
  go_wp2_with fail
  refine (begin_any w.heap.size o r t _ hb0 ho hro ht).mono ?_
  rintro e w1 ⟨rfl, ar, ad, ao, aa, ai, cap, na, hcap, hna, hb1, hbel1⟩
  have e : na = naOf (roomOf o r) := hna
  subst e
  clear hna hb0
  have hbel := hbel0.trans hbel1
  clear hbel0 hbel1
  have c1 := blk_cell hb1
  have c3 : w1.cell? ⟨w.heap.size, 2 + 1, none⟩ = some (.slice ao 0 cap) := (c1 3).trans rfl
  go_wp2_with fail
  go_quiet (first | (go_at_call 15; exact Calls.quiet_of_same (cap_any w.heap.size 2 ao 0 cap _ c3)) | (go_at_call 16; exact Calls.quiet_of_same (len_any w.heap.size 2 ao 0 cap _ c3)))
  go_wp2_with fail
  refine bodyPost_ret (v := .tuple #[.bool false, .int .i64 0, .int .i64 (roomOf o r), .bool false, .int .i64 0, .int .i64 cap, .int .i64 0, .int .i64 (naOf (roomOf o r)), .int .i64 (naOf (roomOf o r))]) (by simp [results, Try.results6, go_sem]) rfl ⟨cap, hcap, rfl, below_drewN hbel _⟩
end Go.Proofs.Qxb6612485a
