import Derived.Test.Qxb6612511aRead
namespace Go.Proofs.Qxb6612511a
open Go.RowKit

set_option maxRecDepth 100000 in
set_option maxHeartbeats 1000000 in
theorem equal_any (ga gb n ca cb : Nat) (f : Nat → Int) (w : World) (hn : n ≤ 100000) (ha : ∀ i, i < n → w.cell? ⟨ga, i, none⟩ = some (.int .u8 (f i))) (hb : ∀ i, i < n → w.cell? ⟨gb, i, none⟩ = some (.int .u8 (f i))) :
    Calls Try.prog 6 #[.slice (some ⟨ga, 0, none⟩) n ca, .slice (some ⟨gb, 0, none⟩) n cb] w fun e w' => e = .returned (.bool true) ∧ ∃ d, w' = w.drewN d := by
  go_enter Try.func6, Try.ntmps6
  go_wp2_with fail
  go_loopw [5] (fun i wr => ∃ k d : Nat, k ≤ n ∧ i = .int .i64 k ∧ wr = w.drewN d) (fun i _ => n - (intOf i).toNat)
  case atStart => exact ⟨0, 0, Nat.zero_le _, rfl, rfl⟩
  case round =>
    obtain ⟨k, d, hk, rfl, rfl⟩ := hrel
    by_cases hlt : k < n
    · have h1 := ha k hlt
      have h2 := hb k hlt
      have h3 : (0 : Int) ≤ (k : Int) := by omega
      have h4 : (k : Int) < (n : Int) := by omega
      go_wp2_with fail
      go_quiet (fail)
      go_wp2_with fail
      go_roundw
      case rel => exact ⟨k + 1, _, by omega, by go_num, rfl⟩
      case measure => simp [intOf]; omega
    · go_wp2_with fail
      go_ret
      exact ⟨rfl, d, rfl⟩

theorem Room.below {w w' : World} {g : Nat} {l : List Int} {cap : Nat} (h : Room w g l cap) (hb : Below w.heap.size w w') : Room w' g l cap := h.kept (hb.block _ h.lt)
theorem View.below {b : Nat} {w w' : World} {ao : Option Addr} {cp : Nat} {gs : List (Nat × List Int)} {g : Nat} {c : List Int} {cap : Nat} (h : View b w ao cp gs g c cap) (hb : Below w.heap.size w w') : View b w' ao cp gs g c cap := by
  refine ⟨(hb.block b (blk_lt h.blk)).trans h.blk, fun k p hp => ?_, fun k p hp => ⟨(h.rooms k p hp).1.below hb, (h.rooms k p hp).2⟩, ⟨h.hand.1.below hb, h.hand.2⟩, h.small, h.few⟩
  obtain ⟨g1, e, h1, h2, h3⟩ := h.list k p hp
  exact ⟨g1, e, (hb.cell (p := ⟨g1, k * 2, none⟩) h3).trans h1, (hb.cell (p := ⟨g1, k * 2 + 1, none⟩) h3).trans h2, Nat.lt_of_lt_of_le h3 hb.size⟩

set_option maxRecDepth 100000 in
theorem blank_any (b : Nat) (n : Int) (w : World) (hn : n ≤ 65536) (h : Holds b w []) :
    Calls Try.prog 4 #[.pointer (some ⟨b, 0, none⟩), .int .i64 n] w fun e w' => e = .returned (.tuple #[]) ∧ Holds b w' (arrText n) ∧ Below b w w' := by
  go_enter Try.func4, Try.ntmps4
  go_wp2_with fail
  refine (array_any b n w hn h).mono ?_
  rintro e w' ⟨rfl, h1, h2⟩
  go_wp2_with fail
  go_end0
  exact ⟨rfl, h1, h2⟩

theorem make_bytes (n : Nat) (hn : n ≤ 100000) : ∃ M : Array Value, M.size = n ∧ ∀ w : World,
    (Instr.makeSlice 24 (.int .i64 n) (.int .i64 n)).run Try.prog w = .ok (.slice (some ⟨w.heap.size, 0, none⟩) n n) (w.alloc (.cells M 5)) := by
  obtain ⟨i, hi, hz0, hz1, hz2⟩ := info_parts info5
  refine ⟨madeCells (Value.int .u8 0).cells (n * i.size), by rw [hz1]; simp [madeCells, Value.cells], fun w => (run_make w 24 5 i _ Try.underlying24 hi hz0 .i64 .i64 n n (by omega) (by omega) ?_ (by omega)).trans (by simp)⟩
  rw [hz2]
  omega

theorem arrText_length (n : Int) : (arrText n).length = (n - 1).toNat + 2 := by simp [arrText]
theorem arrText_get (n : Int) (i : Nat) (h : i < (n - 1).toNat + 2) : (arrText n).getD i 0 = if i = 0 then 91 else if i = (n - 1).toNat + 1 then 93 else 44 := by
  unfold arrText
  by_cases h0 : i = 0
  · subst h0; rfl
  · rw [if_neg h0]
    obtain ⟨j, rfl⟩ : ∃ j, i = j + 1 := ⟨i - 1, by omega⟩
    by_cases h1 : j + 1 = (n - 1).toNat + 1
    · rw [if_pos h1]
      have e : j = (n - 1).toNat := by omega
      subst e
      simp
    · rw [if_neg h1]
      simp only [List.cons_append, List.getD_cons_succ]
      rw [List.getD_eq_getElem?_getD, List.getElem?_append_left (by simp; omega), List.getElem?_replicate, if_pos (by omega)]
      rfl
end Go.Proofs.Qxb6612511a
