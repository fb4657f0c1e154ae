import Derived.Test.Qxb6612511aPlain
namespace Go.Proofs.Qxb6612511a
open Go.RowKit

set_option maxRecDepth 100000 in
theorem nop_any (n : Int) (w : World) : Calls Try.prog 10 #[.int .i64 n] w fun e w' => e = .returned (.tuple #[]) ∧ w' = w := by
  go_enter Try.func10, Try.ntmps10
  go_wp2
  go_end0
  exact ⟨rfl, rfl⟩

set_option maxRecDepth 100000 in
set_option maxHeartbeats 2000000 in
theorem array_any (b : Nat) (n : Int) (w : World) (hn : n ≤ 65536) (h : Holds b w []) :
    Calls Try.prog 9 #[.pointer (some ⟨b, 0, none⟩), .int .i64 n, .func (.func 10) #[] #[]] w fun e w' => e = .returned (.tuple #[]) ∧ Holds b w' (arrText n) ∧ Below b w w' := by
  go_enter Try.func9, Try.ntmps9
  go_wp2_with fail
  refine (write_holds b w [] 91 h (by simp)).mono ?_
  rintro e w1 ⟨rfl, h1, hb1⟩
  clear h
  go_wp2_with fail
  go_loopw [10] (fun i wr => ∃ k : Nat, (k : Int) ≤ max n 0 ∧ i = .int .i64 k ∧ Holds b wr (91 :: List.replicate (k - 1) 44) ∧ Below b w wr) (fun i _ => (n - intOf i).toNat)
  case atStart => exact ⟨0, by omega, rfl, h1, hb1⟩
  case round =>
    obtain ⟨k, hk, rfl, hh, hbr⟩ := hrel
    by_cases hlt : (k : Int) < n
    · by_cases hk0 : k = 0
      · subst hk0
        go_wp2_with fail
        refine (nop_any _ _).mono ?_
        rintro e w2 ⟨rfl, rfl⟩
        go_wp2_with fail
        go_roundw
        case rel => exact ⟨1, by omega, rfl, hh, hbr⟩
        case measure => simp [intOf]; omega
      · have hp : (0 : Int) < (k : Int) := by omega
        go_wp2_with fail
        refine (write_holds b _ _ 44 hh (by simp; omega)).mono ?_
        rintro e w2 ⟨rfl, hh2, hb2⟩
        go_wp2_with fail
        refine (nop_any _ _).mono ?_
        rintro e w3 ⟨rfl, rfl⟩
        go_wp2_with fail
        go_roundw
        case rel =>
          refine ⟨k + 1, by omega, by go_num, ?_, hbr.trans hb2⟩
          have e : (91 :: List.replicate (k - 1) 44 ++ [((44 : UInt8).toNat : Int)] : List Int) = 91 :: List.replicate (k + 1 - 1) 44 := by
            have e2 : k + 1 - 1 = (k - 1) + 1 := by omega
            rw [e2, List.replicate_succ']
            rfl
          rw [← e]
          exact hh2
        case measure => simp [intOf]; omega
    · go_wp2_with fail
      refine (write_holds b _ _ 93 hh (by simp; omega)).mono ?_
      rintro e w2 ⟨rfl, hh2, hb2⟩
      go_wp2_with fail
      go_end0
      refine ⟨rfl, ?_, hbr.trans hb2⟩
      have e : (n - 1).toNat = k - 1 := by omega
      unfold arrText
      rw [e]
      exact hh2
end Go.Proofs.Qxb6612511a
