import Derived.Test.Qxb6612485aFmtLaw1
import Derived.Test.Qxb6612485aFmtSpec2
namespace Go.Proofs.Qxb6612485aFmt
open Go.RowKit

/-- A slice whose n cells can be read: cell i holds f i. -/
def RD (w : World) (a : Option Addr) (n : Nat) (f : Nat → Value) : Prop := ∀ i, i < n → ∃ g, a = some ⟨g, 0, none⟩ ∧ g < w.heap.size ∧ w.cell? ⟨g, i, none⟩ = some (f i)
theorem RD.same {w w' : World} {a : Option Addr} {n : Nat} {f : Nat → Value} (h : RD w a n f) (hh : w'.heap = w.heap) : RD w' a n f := fun i hi => by
  obtain ⟨g, h1, h2, h3⟩ := h i hi
  exact ⟨g, h1, by rw [hh]; exact h2, (same_cell hh _).trans h3⟩
theorem RD.below {w w' : World} {a : Option Addr} {n : Nat} {f : Nat → Value} (h : RD w a n f) (hh : Below w.heap.size w w') : RD w' a n f := fun i hi => by
  obtain ⟨g, h1, h2, h3⟩ := h i hi
  exact ⟨g, h1, Nat.lt_of_lt_of_le h2 hh.size, (hh.cell (p := ⟨g, i, none⟩) h2).trans h3⟩

/-- A slice that leads to bytes of the message: from cell q on. -/
def Leads (w : World) (v : Value) (m : Nat) (f : Nat → Int) : Prop := ∃ ap cp, v = .slice ap m cp ∧ ∀ j, j < m → ∃ g o, ap = some ⟨g, o, none⟩ ∧ g < w.heap.size ∧ w.cell? ⟨g, o + j, none⟩ = some (.int .u8 (f j))
theorem Leads.same {w w' : World} {v : Value} {m : Nat} {f : Nat → Int} (h : Leads w v m f) (hh : w'.heap = w.heap) : Leads w' v m f := by
  obtain ⟨ap, cp, e, h⟩ := h
  refine ⟨ap, cp, e, fun j hj => ?_⟩
  obtain ⟨g, o, h1, h2, h3⟩ := h j hj
  exact ⟨g, o, h1, by rw [hh]; exact h2, (same_cell hh _).trans h3⟩

set_option maxRecDepth 100000 in
set_option maxHeartbeats 4000000 in
theorem same_any (k nC nZ : Nat) (c1 c2 c3 c4 c5 : Nat) (a1 a2 a3 a4 a5 : Option Addr) (C Z P : List Int) (D : Nat → Value) (w : World)
    (r1 : RD w a1 k (fun i => .int .u8 (C.getD i 0))) (r2 : RD w a2 k D) (r3 : RD w a3 nC (fun i => .int .u8 (C.getD i 0))) (r4 : RD w a4 nZ (fun i => .int .u8 (Z.getD i 0))) (r5 : RD w a5 P.length (fun i => .int .u8 (P.getD i 0)))
    (hk : k ≤ nC) (hk2 : k ≤ nZ) (hz : ∀ i, 0 ≤ Z.getD i 0 ∧ Z.getD i 0 ≤ 255) (hU : us Z k ≤ P.length) (hP : P.length ≤ 2000000) (hk3 : k ≤ 2000000)
    (hD : ∀ i, i < k → Leads w (D i) (Z.getD i 0).toNat (fun j => P.getD (us Z i + j) 0)) :
    Calls Tryf.prog 10 #[.slice a1 k c1, .slice a2 k c2, .slice a3 nC c3, .slice a4 nZ c4, .slice a5 P.length c5, .int .i64 k] w fun e w' => e = .returned (.bool true) ∧ w'.heap = w.heap ∧ Below w.heap.size w w' := by
  go_enter Tryf.func10, Tryf.ntmps10
  go_wp2_with fail
  go_loopw [13, 14] (fun av iv wr => ∃ i : Nat, iv = .int .i64 i ∧ i ≤ k ∧ av = .int .i64 (us Z i : Nat) ∧ wr.heap = w.heap ∧ Below w.heap.size w wr) (fun _ iv _ => k - (intOf iv).toNat)
  case atStart => exact ⟨0, rfl, Nat.zero_le _, rfl, rfl, Below.refl _ _⟩
  case round =>
    obtain ⟨i, rfl, hi, rfl, hheap, hbr⟩ := hrel
    by_cases hlt : (i : Int) < (k : Int)
    · have hik : i < k := by omega
      obtain ⟨g1, rfl, l1, d1⟩ := r1.same hheap i hik
      obtain ⟨g2, rfl, l2, d2⟩ := r2.same hheap i hik
      obtain ⟨g3, rfl, l3, d3⟩ := r3.same hheap i (by omega)
      obtain ⟨g4, rfl, l4, d4⟩ := r4.same hheap i (by omega)
      obtain ⟨ap, cp, hDi, hL⟩ := hD i hik
      rw [hDi] at d2
      replace d1 : wr.cell? ⟨g1, i, none⟩ = some (.int .u8 (C.getD i 0)) := d1
      replace d3 : wr.cell? ⟨g3, i, none⟩ = some (.int .u8 (C.getD i 0)) := d3
      have hzi := hz i
      obtain ⟨m, hm⟩ : ∃ m : Nat, Z.getD i 0 = m := ⟨(Z.getD i 0).toNat, by omega⟩
      have hus : us Z (i + 1) = us Z i + m := by simp only [us]; rw [hm]; rfl
      have hule : us Z i + m ≤ P.length := by have := us_mono Z (show i + 1 ≤ k by omega); omega
      simp only [hm, Int.toNat_natCast] at d2 d4 hL hzi
      have HU : Hid (us Z (i + 1) = us Z i + m) := hus
      generalize C.getD i 0 = c at *
      clear hus hm hDi
      generalize us Z i = u at *
      have hi0 : (0 : Int) ≤ (i : Int) := by omega
      have hi1 : (i : Int) < (nC : Int) := by omega
      have hi2 : (i : Int) < (nZ : Int) := by omega
      have HH0 : Hid (wr.heap = w.heap) := hheap
      clear hheap
      go_wp2_with fail
      go_quiet (fail)
      go_wp2_with fail
      go_loopw [13, 15] (fun av jv wj => ∃ j : Nat, jv = .int .i64 j ∧ j ≤ m ∧ av = .int .i64 ((u + j : Nat) : Int) ∧ wj.heap = w.heap ∧ Below w.heap.size w wj) (fun _ jv _ => m - (intOf jv).toNat)
      case atStart => exact ⟨0, rfl, Nat.zero_le _, rfl, HH0.out, below_drewN hbr _⟩
      case round =>
        obtain ⟨j, rfl, hj, rfl, hheap2, hbr2⟩ := hrel
        have e4 : wr.cell? ⟨g4, i, none⟩ = some (.int .u8 m) := (same_cell (hheap2.trans HH0.out.symm) _).trans d4
        have m4 : g4 < wr.heap.size := by rw [hheap2, ← HH0.out]; exact l4
        by_cases hjm : (j : Int) < (m : Int)
        · obtain ⟨g, o, rfl, lg, cm⟩ := hL j (by omega)
          obtain ⟨g5, rfl, l5, d5⟩ := r5.same hheap2 (u + j) (by omega)
          have e2 : wr.cell? ⟨g2, i, none⟩ = some (.slice (some ⟨g, o, none⟩) m cp) := (same_cell (hheap2.trans HH0.out.symm) _).trans d2
          have m2 : g2 < wr.heap.size := by rw [hheap2, ← HH0.out]; exact l2
          have em : wr.cell? ⟨g, o + j, none⟩ = some (.int .u8 (P.getD (u + j) 0)) := (same_cell hheap2 _).trans cm
          have mg : g < wr.heap.size := by rw [hheap2]; exact lg
          have hj0 : (0 : Int) ≤ (j : Int) := by omega
          have hu0 : (0 : Int) ≤ (u : Int) + (j : Int) := by omega
          have hu1 : (u : Int) + (j : Int) < (P.length : Int) := by omega
          have HH : Hid (wr.heap = w.heap) := hheap2
          replace d5 : wr.cell? ⟨g5, u + j, none⟩ = some (.int .u8 (P.getD (u + j) 0)) := d5
          clear d1 d2 d3 d4 l1 l2 l3 l4 hheap2 cm lg
          generalize P.getD (u + j) 0 = x at *
          go_wp2_with fail
          go_quiet (fail)
          go_wp2_with fail
          go_roundw
          case rel => exact ⟨j + 1, by go_num, by omega, by go_num, HH.out, below_drewN hbr2 _⟩
          case measure => simp [intOf]; omega
        · have HH : Hid (wr.heap = w.heap) := hheap2
          have hjme : j = m := by omega
          subst hjme
          clear d1 d2 d3 d4 l1 l2 l3 l4 hheap2
          go_wp2_with fail
          go_roundw
          case rel => exact ⟨i + 1, by go_num, by omega, by rw [HU.out], HH.out, hbr2⟩
          case measure => simp [intOf]; omega
    · go_wp2_with fail
      go_ret
      exact ⟨rfl, hheap, hbr⟩
end Go.Proofs.Qxb6612485aFmt
