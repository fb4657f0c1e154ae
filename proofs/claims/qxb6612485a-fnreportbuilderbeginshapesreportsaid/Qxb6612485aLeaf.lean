import Derived.Test.Qxb6612485aRows
import Derived.WalkKit
import Derived.WalkSpells
import Derived.WalkLawsBesides
import Derived.BigQuiet
import Derived.Deep.QuietTactic
import Derived.Deep.RegionHeld3
import Derived.Lib.Builder
import Derived.Lib.MakeNoZero
namespace Go.Proofs.Qxb6612485a
open Go.RowKit

set_option maxRecDepth 100000 in
set_option maxHeartbeats 400000 in
theorem cap_any (b o : Nat) (ao : Option Addr) (n c : Nat) (w : World) (h : w.cell? ⟨b, o + 1, none⟩ = some (.slice ao n c)) :
    Calls Try.prog 15 #[.pointer (some ⟨b, o, none⟩)] w fun e w' => e = .returned (.int .i64 c) ∧ w' = w := by
  go_enter Try.func15, Try.ntmps15
  go_wp2
  go_ret
  exact ⟨rfl, rfl⟩

set_option maxRecDepth 100000 in
set_option maxHeartbeats 400000 in
theorem len_any (b o : Nat) (ao : Option Addr) (n c : Nat) (w : World) (h : w.cell? ⟨b, o + 1, none⟩ = some (.slice ao n c)) :
    Calls Try.prog 16 #[.pointer (some ⟨b, o, none⟩)] w fun e w' => e = .returned (.int .i64 n) ∧ w' = w := by
  go_enter Try.func16, Try.ntmps16
  go_wp2
  go_ret
  exact ⟨rfl, rfl⟩

theorem info53 : (Try.prog.info? 53).map (fun i => i.size) = some 2 := by kernel_rfl
theorem lies53 : liesAt Try.prog Try.prog.depth 69 (22 / Try.prog.cellsOf 69) 2 53 1 = true := by kernel_rfl

set_option maxRecDepth 100000 in
set_option maxHeartbeats 400000 in
theorem copyCheck_fresh (b : Nat) (w : World) (h0 : w.cell? ⟨b, 2, none⟩ = some (.pointer none)) (hsh : w.shape? b = some (69, 22)) (hfz : w.frozen? ⟨b, 2, none⟩ = false) :
    Calls Try.prog 22 #[.pointer (some ⟨b, 2, none⟩)] w fun e w' => e = .returned (.tuple #[]) ∧ w' = w.setCell ⟨b, 2, none⟩ (.pointer (some ⟨b, 2, none⟩)) := by
  obtain ⟨j, hj, hjs⟩ := Option.map_eq_some_iff.1 info53
  go_enter Try.func22, Try.ntmps22
  go_wp2
  rw [Lib.run_to_unsafe w ⟨b, 2, none⟩ Try.underlying50 Try.underlying92 hj (by rw [hjs]; decide) hsh (by show 2 < 22; decide)]
  simp only [Result.andThen]
  rw [Oper.upon_value]
  go_wp2
  rw [run_callFunc_extern Try.func24 (by kernel_rfl) (by kernel_rfl) (by kernel_rfl) (e := Extern.AbiNoEscape.same) (by kernel_rfl)]
  rw [Lib.run_noEscape]
  simp only [Result.andThen]
  rw [Oper.upon_value]
  go_wp2
  rw [Lib.run_from_unsafe w ⟨b, 2, none⟩ Try.underlying92 Try.underlying50 hj hsh lies53]
  simp only [Result.andThen]
  rw [Oper.upon_value]
  go_wp2
  go_end0
  exact ⟨rfl, rfl⟩
end Go.Proofs.Qxb6612485a
