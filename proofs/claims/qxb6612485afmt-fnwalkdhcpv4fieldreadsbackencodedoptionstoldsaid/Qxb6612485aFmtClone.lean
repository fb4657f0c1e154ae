import Derived.Test.Qxb6612485aFmtVisit

namespace Go.Proofs.Qxb6612485aFmt
open Go.RowKit

/-- WHAT THE WALK IS TOLD OF A SLICE OF BYTES THAT CAME IN. -/
def IsRow (k : IntKind) (w : World) (a : Option Addr) (len cap : Nat) (zs : List Int) : Prop :=
  (a = none ∧ len = 0 ∧ cap = 0 ∧ zs = []) ∨
  ∃ x, a = some x ∧ len ≤ cap ∧ cap ≤ maxLen ∧ zs.length = cap ∧ (∀ i, i < zs.length → w.cell? (x.add i) = some (.int k (zs.getD i 0))) ∧ ∀ n ∈ zs, (Lit.int k n).wf = true

/-- A copy that lies by itself: the bytes xs, in a block from b on. -/
def Own (w : World) (b : Nat) (a : Option Addr) (xs : List Int) : Prop :=
  (a = none ∧ xs = []) ∨ ∃ g, a = some ⟨g, 0, none⟩ ∧ b ≤ g ∧ w.heap[g]? = some (.cells (bytesOf xs).toArray 5 (0, 0))

theorem make_bytes (n : Nat) (hn : n ≤ 2000000) : ∃ M : Array Value, M.size = n ∧ ∀ w : World,
    (Instr.makeSlice 22 (.int .i64 n) (.int .i64 n)).run Tryf.prog w = .ok (.slice (some ⟨w.heap.size, 0, none⟩) n n) (w.alloc (.cells M 5)) := by
  obtain ⟨i, hi, hz0, hz1, hz2⟩ := info_parts info5
  refine ⟨madeCells (Value.int .u8 0).cells (n * i.size), by rw [hz1]; simp [madeCells, Value.cells], fun w => (run_make w 22 5 i _ Tryf.underlying22 hi hz0 .i64 .i64 n n (by omega) (by omega) ?_ (by omega)).trans (by simp)⟩
  rw [hz2]
  omega

set_option maxRecDepth 100000 in
set_option maxHeartbeats 1000000 in
theorem clone_nil (w : World) : Calls Tryf.prog 6 #[.slice none 0 0] w fun e w' => e = .returned (.slice none 0 0) ∧ w' = w := by
  have q22 : ∀ (w : World) (a : Option Addr) (n c : Nat), (binOp .eql 22 (.slice a n c) (.slice none 0 0)).run Tryf.prog w = .ok (.bool a.isNone) w := fun w a n c => Lib.run_eql_slice_nil w _ _ a n c 0 0 Tryf.underlying22
  go_enter Tryf.func6, Tryf.ntmps6
  go_wp2_with fail
  go_ret
  exact ⟨rfl, rfl⟩

theorem cells_take {zs : List Int} {n : Nat} {cs : Array Value} (hn : n ≤ zs.length) (hs : cs.size = n) (hc : ∀ j, j < n → cs[j]? = some (.int .u8 (zs.getD j 0))) : cs = (bytesOf (zs.take n)).toArray := by
  apply Array.ext
  · simp [bytesOf, hs, Nat.min_eq_left hn]
  · intro j h1 h2
    have := hc j (by omega)
    rw [Array.getElem?_eq_getElem h1] at this
    have h3 : j < zs.length := by omega
    simp [bytesOf, List.getD_eq_getElem?_getD, h3] at this ⊢
    exact this

set_option maxRecDepth 100000 in
set_option maxHeartbeats 1000000 in
theorem clone_some (x : Addr) (n cap : Nat) (zs : List Int) (w : World) (hn : n ≤ 2000000) (hz : n ≤ zs.length)
    (hc : ∀ i, i < zs.length → w.cell? (x.add i) = some (.int .u8 (zs.getD i 0))) :
    Calls Tryf.prog 6 #[.slice (some x) n cap] w fun e w' => e = .returned (.slice (some ⟨w.heap.size, 0, none⟩) n n) ∧
      w'.heap[w.heap.size]? = some (.cells (bytesOf (zs.take n)).toArray 5 (0, 0)) ∧ Below w.heap.size w w' := by
  have q22 : ∀ (w : World) (a : Option Addr) (n c : Nat), (binOp .eql 22 (.slice a n c) (.slice none 0 0)).run Tryf.prog w = .ok (.bool a.isNone) w := fun w a n c => Lib.run_eql_slice_nil w _ _ a n c 0 0 Tryf.underlying22
  obtain ⟨M, hM, hmk⟩ := make_bytes n hn
  go_enter Tryf.func6, Tryf.ntmps6
  go_wp2_with fail
  go_loopw [4] (fun iv wr => ∃ (i : Nat) (cs : Array Value), iv = .int .i64 i ∧ i ≤ n ∧ wr.heap[w.heap.size]? = some (.cells cs 5 (0, 0)) ∧ cs.size = n ∧ (∀ j, j < i → cs[j]? = some (.int .u8 (zs.getD j 0))) ∧ Below w.heap.size w wr) (fun iv _ => n - (intOf iv).toNat)
  case atStart =>
    exact ⟨0, M, rfl, Nat.zero_le _, heap_alloc_new w _, hM, fun j hj => by omega, (Below.refl _ _).alloc (Nat.le_refl _) _⟩
  case round =>
    obtain ⟨i, cs, rfl, hi, hb, hs, hcs, hbel⟩ := hrel
    by_cases hlt : (i : Int) < n
    · obtain ⟨g, o, sp⟩ := x
      have hc1 := hc i (by omega)
      have hsp : sp = none := by simpa [Addr.add] using World.cell?_spot (hc 0 (by omega))
      subst hsp
      have hadd : (⟨g, o, none⟩ : Addr).add i = ⟨g, o + i, none⟩ := by unfold Addr.add; split <;> simp_all
      have hc2 : w.cell? ⟨g, o + i, none⟩ = some (.int .u8 (zs.getD i 0)) := by rw [← hadd]; exact hc1
      have hgl : g < w.heap.size := World.block_lt_of_cell? w ⟨g, o + i, none⟩ hc2
      have hc3 : wr.cell? ⟨g, o + i, none⟩ = some (.int .u8 (zs.getD i 0)) := (hbel.cell (p := ⟨g, o + i, none⟩) hgl).trans hc2
      have hi0 : (0 : Int) ≤ (i : Int) := by omega
      have hgl2 : g < wr.heap.size := Nat.lt_of_lt_of_le hgl hbel.size
      have c := blk_cell hb
      have f := blk_frozen hb
      have l := blk_lt hb
      clear hc1 hc2 hc hmk hadd
      have hcv : cs[i]? = some (cs[i]'(by omega)) := Array.getElem?_eq_getElem _
      generalize cs[i]'(by omega) = old at hcv
      have ci : wr.cell? ⟨w.heap.size, i, none⟩ = some old := (c i).trans hcv
      clear c
      go_wp2_with fail
      go_roundw
      case rel =>
        refine ⟨i + 1, cs.setIfInBounds i (.int .u8 (zs.getD i 0)), by go_num, by omega, blk_set hb i _, by simpa using hs, fun j hj => ?_, hbel.setCell (p := ⟨w.heap.size, i, none⟩) (Nat.le_refl _) _⟩
        by_cases hji : j = i
        · subst hji
          simp [Array.getElem?_setIfInBounds]
          omega
        · rw [Array.getElem?_setIfInBounds_ne (by omega)]
          exact hcs j (by omega)
      case measure => simp [intOf]; omega
    · have hin : i = n := by omega
      subst hin
      go_wp2_with fail
      go_ret
      refine ⟨rfl, ?_, hbel⟩
      rw [hb, cells_take hz hs hcs]

theorem clone_any (a : Option Addr) (n cap : Nat) (zs : List Int) (w : World) (h : IsRow .u8 w a n cap zs) (hn : n ≤ 2000000) :
    Calls Tryf.prog 6 #[.slice a n cap] w fun e w' => ∃ a', e = .returned (.slice a' n n) ∧ Own w' w.heap.size a' (zs.take n) ∧ Below w.heap.size w w' := by
  rcases h with ⟨rfl, rfl, rfl, rfl⟩ | ⟨x, rfl, hl, hm, hz, hcell, hwz⟩
  · refine (clone_nil w).mono ?_
    rintro e w' ⟨rfl, rfl⟩
    exact ⟨none, rfl, .inl ⟨rfl, rfl⟩, Below.refl _ _⟩
  · refine (clone_some x n cap zs w hn (by omega) hcell).mono ?_
    rintro e w' ⟨rfl, hb, hbel⟩
    exact ⟨_, rfl, .inr ⟨_, rfl, Nat.le_refl _, hb⟩, hbel⟩
end Go.Proofs.Qxb6612485aFmt
