import Derived.Test.Qxb6612485aReport
namespace Go.Proofs.Qxb6612485a
open Go.RowKit

set_option maxRecDepth 100000 in
set_option maxHeartbeats 2000000 in
theorem shapes_main (o r t : Nat) (w : World) (ho : o ≤ 65536) (hro : r ≤ o) (ht : t ≤ 65536) :
    Calls Try.prog 3 #[.int .i64 o, .int .i64 r, .int .i64 t] w fun e w' => e = .returned (.bool true) ∧ Below w.heap.size w w' := by
  by_cases h : r < o
  · have hR : roomOf o r = r + 1 := by unfold roomOf; rw [if_pos h]
    have h1 : ¬ (o : Int) < (r : Int) + 1 := by omega
    go_enter Try.func3, Try.ntmps3
    go_wp2_with fail
    refine (report_any o r t w ho hro ht).mono ?_
    rintro e w' ⟨cap, hcap, rfl, hbel⟩
    rw [hR]
    clear hR
    go_wp2_with fail
    go_ret
    exact ⟨rfl, hbel⟩
  · have e : o = r := by omega
    subst e
    have hR : roomOf o o = o := by unfold roomOf; rw [if_neg h]
    have h1 : (o : Int) < (o : Int) + 1 := by omega
    go_enter Try.func3, Try.ntmps3
    go_wp2_with fail
    refine (report_any o o t w ho hro ht).mono ?_
    rintro e w' ⟨cap, hcap, rfl, hbel⟩
    rw [hR]
    clear hR
    go_wp2_with fail
    go_ret
    exact ⟨rfl, hbel⟩

set_option maxRecDepth 100000 in
set_option maxHeartbeats 2000000 in
theorem shapes_walk (a0 a1 a2 : Int) (w : World) :
    Calls Try.prog 3 #[.int .i64 a0, .int .i64 a1, .int .i64 a2] w fun e w' => e = .returned (.bool true) ∧ Below w.heap.size w w' := by
  by_cases h0 : 0 ≤ a0 ∧ a0 ≤ 65536 ∧ 0 ≤ a1 ∧ a1 ≤ a0 ∧ 0 ≤ a2 ∧ a2 ≤ 65536
  · obtain ⟨p1, p2, p3, p4, p5, p6⟩ := h0
    obtain ⟨o, rfl⟩ := Int.eq_ofNat_of_zero_le p1
    obtain ⟨r, rfl⟩ := Int.eq_ofNat_of_zero_le p3
    obtain ⟨t, rfl⟩ := Int.eq_ofNat_of_zero_le p5
    exact shapes_main o r t w (by omega) (by omega) (by omega)
  · rcases (show a0 < 0 ∨ (0 ≤ a0 ∧ 65536 < a0) ∨ (0 ≤ a0 ∧ a0 ≤ 65536 ∧ a1 < 0) ∨ (0 ≤ a0 ∧ a0 ≤ 65536 ∧ 0 ≤ a1 ∧ a0 < a1) ∨ (0 ≤ a0 ∧ a0 ≤ 65536 ∧ 0 ≤ a1 ∧ a1 ≤ a0 ∧ a2 < 0) ∨ (0 ≤ a0 ∧ a0 ≤ 65536 ∧ 0 ≤ a1 ∧ a1 ≤ a0 ∧ 0 ≤ a2 ∧ 65536 < a2) from by omega) with h | ⟨h1, h⟩ | ⟨h1, h2, h⟩ | ⟨h1, h2, h3, h⟩ | ⟨h1, h2, h3, h4, h⟩ | ⟨h1, h2, h3, h4, h5, h⟩
    all_goals
      clear h0
      go_enter Try.func3, Try.ntmps3
      go_wp2_with fail
      go_ret
      exact ⟨rfl, Below.refl _ _⟩

set_option maxRecDepth 100000 in
set_option maxHeartbeats 2000000 in
theorem stores_main (o r t : Nat) (w : World) (ho : o ≤ 65536) (hro : r ≤ o) (ht : t ≤ 65536) :
    Calls Try.prog 4 #[.int .i64 o, .int .i64 r, .int .i64 t] w fun e w' => e = .returned (.bool true) ∧ Below w.heap.size w w' := by
  by_cases h : r < o
  · have hR : roomOf o r = r + 1 := by unfold roomOf; rw [if_pos h]
    have h1 : ¬ (o : Int) < (r : Int) + 1 := by omega
    by_cases h2 : r = 0
    · subst h2
      have hN : naOf (0 + 1) = 2 := rfl
      go_enter Try.func4, Try.ntmps4
      go_wp2_with fail
      refine (report_any o 0 t w ho hro ht).mono ?_
      rintro e w' ⟨cap, hcap, rfl, hbel⟩
      rw [hR, hN]
      clear hR hN
      have hc : ¬ (cap : Int) < (t : Int) := by omega
      go_wp2_with fail
      go_ret
      exact ⟨rfl, hbel⟩
    · have hN : naOf (r + 1) = 0 := by unfold naOf; rw [if_neg (by omega)]
      have h3 : ((r : Int) + 1 == 1) = false := by simp; omega
      go_enter Try.func4, Try.ntmps4
      go_wp2_with fail
      refine (report_any o r t w ho hro ht).mono ?_
      rintro e w' ⟨cap, hcap, rfl, hbel⟩
      rw [hR, hN]
      clear hR hN
      have hc : ¬ (cap : Int) < (t : Int) := by omega
      go_wp2_with fail
      go_ret
      exact ⟨rfl, hbel⟩
  · have e : o = r := by omega
    subst e
    have hR : roomOf o o = o := by unfold roomOf; rw [if_neg h]
    have h1 : (o : Int) < (o : Int) + 1 := by omega
    by_cases h2 : o = 1
    · subst h2
      have hN : naOf 1 = 2 := rfl
      go_enter Try.func4, Try.ntmps4
      go_wp2_with fail
      refine (report_any 1 1 t w ho hro ht).mono ?_
      rintro e w' ⟨cap, hcap, rfl, hbel⟩
      rw [hR, hN]
      clear hR hN
      have hc : ¬ (cap : Int) < (t : Int) := by omega
      go_wp2_with fail
      go_ret
      exact ⟨rfl, hbel⟩
    · have hN : naOf o = 0 := by unfold naOf; rw [if_neg (by omega)]
      have h3 : ((o : Int) == 1) = false := by simp; omega
      go_enter Try.func4, Try.ntmps4
      go_wp2_with fail
      refine (report_any o o t w ho hro ht).mono ?_
      rintro e w' ⟨cap, hcap, rfl, hbel⟩
      rw [hR, hN]
      clear hR hN
      have hc : ¬ (cap : Int) < (t : Int) := by omega
      go_wp2_with fail
      go_ret
      exact ⟨rfl, hbel⟩

set_option maxRecDepth 100000 in
set_option maxHeartbeats 2000000 in
theorem stores_walk (a0 a1 a2 : Int) (w : World) :
    Calls Try.prog 4 #[.int .i64 a0, .int .i64 a1, .int .i64 a2] w fun e w' => e = .returned (.bool true) ∧ Below w.heap.size w w' := by
  by_cases h0 : 0 ≤ a0 ∧ a0 ≤ 65536 ∧ 0 ≤ a1 ∧ a1 ≤ a0 ∧ 0 ≤ a2 ∧ a2 ≤ 65536
  · obtain ⟨p1, p2, p3, p4, p5, p6⟩ := h0
    obtain ⟨o, rfl⟩ := Int.eq_ofNat_of_zero_le p1
    obtain ⟨r, rfl⟩ := Int.eq_ofNat_of_zero_le p3
    obtain ⟨t, rfl⟩ := Int.eq_ofNat_of_zero_le p5
    exact stores_main o r t w (by omega) (by omega) (by omega)
  · rcases (show a0 < 0 ∨ (0 ≤ a0 ∧ 65536 < a0) ∨ (0 ≤ a0 ∧ a0 ≤ 65536 ∧ a1 < 0) ∨ (0 ≤ a0 ∧ a0 ≤ 65536 ∧ 0 ≤ a1 ∧ a0 < a1) ∨ (0 ≤ a0 ∧ a0 ≤ 65536 ∧ 0 ≤ a1 ∧ a1 ≤ a0 ∧ a2 < 0) ∨ (0 ≤ a0 ∧ a0 ≤ 65536 ∧ 0 ≤ a1 ∧ a1 ≤ a0 ∧ 0 ≤ a2 ∧ 65536 < a2) from by omega) with h | ⟨h1, h⟩ | ⟨h1, h2, h⟩ | ⟨h1, h2, h3, h⟩ | ⟨h1, h2, h3, h4, h⟩ | ⟨h1, h2, h3, h4, h5, h⟩
    all_goals
      clear h0
      go_enter Try.func4, Try.ntmps4
      go_wp2_with fail
      go_ret
      exact ⟨rfl, Below.refl _ _⟩
end Go.Proofs.Qxb6612485a
