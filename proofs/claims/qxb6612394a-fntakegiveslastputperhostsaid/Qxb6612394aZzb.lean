import Derived.Test.Qxb6612394aCs
namespace Go.Proofs.Qxb6612394a
open Go.RowKit Go.Maps

def Says (e : Ending) (p : Prop) : Prop := ∃ r, e = .returned (.bool r) ∧ (r = true → p)
theorem Says.no (p : Prop) : Says (.returned (.bool false)) p := ⟨_, rfl, fun h => by cases h⟩
theorem Says.yes {p : Prop} (h : p) : Says (.returned (.bool true)) p := ⟨_, rfl, fun _ => h⟩
/-- Every host's name is short. -/
def Fits (os : List (Bool × ByteArray)) : Prop := ∀ (i : Nat) (p : Bool) (s : ByteArray), os[i]? = some (p, s) → s.size ≤ 1048576
/-- The script's steps in memory: two cells a step. -/
def IsOps (w : World) (a : Option Addr) (os : List (Bool × ByteArray)) : Prop :=
  ∀ (i : Nat) (p : Bool) (h : ByteArray), os[i]? = some (p, h) → ∃ g o, a = some ⟨g, o, none⟩ ∧ g < w.heap.size ∧ w.cell? ⟨g, o + i * 2, none⟩ = some (.bool p) ∧ w.cell? ⟨g, o + i * 2 + 1, none⟩ = some (.string h)
theorem IsOps.below {w w' : World} {a : Option Addr} {os : List (Bool × ByteArray)} (h : IsOps w a os) (hb : Below w.heap.size w w') : IsOps w' a os := fun i p x hi => by
  obtain ⟨g, o, e, l, c1, c2⟩ := h i p x hi
  exact ⟨g, o, e, Nat.lt_of_lt_of_le l hb.size, (hb.cell (p := ⟨g, o + i * 2, none⟩) l).trans c1, (hb.cell (p := ⟨g, o + i * 2 + 1, none⟩) l).trans c2⟩

set_option maxRecDepth 100000 in
set_option maxHeartbeats 1000000 in
theorem zzb4 (a : Option Addr) (cap : Nat) (os : List (Bool × ByteArray)) (w : World) (h : IsOps w a os) :
    Calls Try.prog 4 #[.slice a os.length cap] w fun e w' => w' = w ∧ Says e (Fits os) := by
  by_cases h1 : (1048576 : Int) < (os.length : Int)
  · go_enter Try.func4, Try.ntmps4
    go_wp2_with fail
    go_ret
    exact ⟨rfl, Says.no _⟩
  go_enter Try.func4, Try.ntmps4
  go_wp2_with fail
  go_loopw [3, 4] (fun zv iv wr => ∃ (i z : Nat), iv = .int .i64 i ∧ i ≤ os.length ∧ zv = .int .i64 z ∧ z ≤ 1048576 ∧ (∀ (j : Nat) (p : Bool) (s : ByteArray), j < i → os[j]? = some (p, s) → s.size ≤ 1048576) ∧ wr = w) (fun _ iv _ => os.length - (intOf iv).toNat)
  case atStart => exact ⟨0, os.length, rfl, Nat.zero_le _, rfl, by omega, fun j p s hj => by omega, rfl⟩
  case round =>
    obtain ⟨i, z, rfl, hi, rfl, hz, hs, rfl⟩ := hrel
    by_cases hlt : (i : Int) < (os.length : Int)
    · obtain ⟨⟨p, s⟩, hps⟩ : ∃ x, os[i]? = some x := ⟨os[i]'(by omega), List.getElem?_eq_getElem _⟩
      obtain ⟨g, o, rfl, l, d1, d2⟩ := h i p s hps
      have hi0 : (0 : Int) ≤ (i : Int) := by omega
      have HS : Hid (∀ (j : Nat) (p : Bool) (s : ByteArray), j < i → os[j]? = some (p, s) → s.size ≤ 1048576) := hs
      have HP : Hid (os[i]? = some (p, s)) := hps
      clear hs hps
      by_cases g1 : (1048576 : Int) < (s.size : Int)
      · go_wp2_with fail
        go_ret
        exact ⟨rfl, Says.no _⟩
      by_cases g2 : (1048576 : Int) < (z : Int) + (s.size : Int)
      · go_wp2_with fail
        go_ret
        exact ⟨rfl, Says.no _⟩
      go_wp2_with fail
      go_roundw
      case rel =>
        refine ⟨i + 1, z + s.size, by go_num, by omega, by go_num, by omega, fun j q t hj hq => ?_, trivial⟩
        by_cases hji : j = i
        · subst hji
          have e := HP.out.symm.trans hq
          simp only [Option.some.injEq, Prod.mk.injEq] at e
          rw [← e.2]
          omega
        · exact HS.out j q t (by omega) hq
      case measure => simp [intOf]; omega
    · have HS : Hid (∀ (j : Nat) (p : Bool) (s : ByteArray), j < i → os[j]? = some (p, s) → s.size ≤ 1048576) := hs
      clear hs
      go_wp2_with fail
      go_ret
      refine ⟨rfl, Says.yes (fun j p s hj => HS.out j p s ?_ hj)⟩
      have := (List.getElem?_eq_some_iff.1 hj).1
      omega
end Go.Proofs.Qxb6612394a
