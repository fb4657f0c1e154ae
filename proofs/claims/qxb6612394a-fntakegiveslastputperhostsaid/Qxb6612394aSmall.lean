import Derived.Test.Qxb6612394aPut
namespace Go.Proofs.Qxb6612394a
open Go.RowKit Go.Maps

set_option maxRecDepth 100000 in
set_option maxHeartbeats 1000000 in
theorem newCluster (w : World) : Calls Try.prog 5 #[] w fun e w' => e = .returned (.pointer (some ⟨w.heap.size + 1, 0, none⟩)) ∧ w' = (w.alloc (.map #[] 0)).alloc (.cells (CL w.heap.size 0) 51) := by
  have hmk : ∀ w : World, (Instr.makeMap 37 none).run Try.prog w = .ok (.map (some w.heap.size)) (w.alloc (.map #[] 0)) := fun w => run_makeMap 37 w
  go_enter Try.func5, Try.ntmps5
  go_wp2_with fail
  go_ret
  exact ⟨rfl, rfl⟩

set_option maxRecDepth 100000 in
set_option maxHeartbeats 1000000 in
theorem newConn (w : World) : Calls Try.prog 7 #[] w fun e w' => e = .returned (.pointer (some ⟨w.heap.size, 0, none⟩)) ∧ w' = w.alloc (.cells #[.nilIface, .pointer none, .pointer none, .bool false] 57) := by
  go_enter Try.func7, Try.ntmps7
  go_wp2_with fail
  go_ret
  exact ⟨rfl, rfl⟩

def strsOf (l : List ByteArray) : List Value := l.map Value.string
theorem str_ne {s t : ByteArray} (h : s ≠ t) : (s.toList == t.toList) = false := beq_eq_false_iff_ne.2 (fun e => h (bytes_ext (by rw [← ByteArray.toList_eq, ← ByteArray.toList_eq]; exact e)))
/-- What findHost answers. -/
def Found (hs : List ByteArray) (h : ByteArray) (r : Int) : Prop := (∃ k : Nat, r = k ∧ hs[k]? = some h) ∨ (r = -1 ∧ h ∉ hs)

theorem own_read {w : World} {B : Nat} {e : TypeId} {v : Value} {n : Nat} {xs : List Value} (h : w.ownsRow B e 1 v n xs) :
    ∃ ao cp, v = .slice ao n cp ∧ ∀ k, k < n → ∃ g, ao = some ⟨g, 0, none⟩ ∧ g < w.heap.size ∧ B ≤ g ∧ w.cell? ⟨g, k, none⟩ = xs[k]? := by
  rcases h.2 with ⟨rfl, rfl⟩ | ⟨g, cap, cur, rfl, hB, hg, _, _, _, ht⟩
  · exact ⟨none, 0, rfl, fun k hk => by omega⟩
  · refine ⟨_, _, rfl, fun k hk => ⟨g, rfl, blk_lt hg, hB, ?_⟩⟩
    rw [blk_cell hg, ← ht, List.getElem?_take_of_lt (by omega)]
    simp

set_option maxRecDepth 100000 in
set_option maxHeartbeats 1000000 in
theorem find_any (B : Nat) (vh : Value) (hs : List ByteArray) (h : ByteArray) (w : World) (hown : w.ownsRow B 9 1 vh hs.length (strsOf hs)) (hl : hs.length ≤ 2000000) :
    Calls Try.prog 6 #[vh, .string h] w fun e w' => w' = w ∧ ∃ r, e = .returned (.int .i64 r) ∧ Found hs h r := by
  obtain ⟨ao, cp, rfl, hrd⟩ := own_read hown
  clear hown
  go_enter Try.func6, Try.ntmps6
  go_wp2_with fail
  go_loopw [5] (fun iv wr => ∃ i : Nat, iv = .int .i64 i ∧ i ≤ hs.length ∧ (∀ j, j < i → hs[j]? ≠ some h) ∧ wr = w) (fun iv _ => hs.length - (intOf iv).toNat)
  case atStart => exact ⟨0, rfl, Nat.zero_le _, fun j hj => by omega, rfl⟩
  case round =>
    obtain ⟨i, rfl, hi, hno, rfl⟩ := hrel
    by_cases hlt : (i : Int) < (hs.length : Int)
    · obtain ⟨g, rfl, lg, _, d⟩ := hrd i (by omega)
      obtain ⟨s, hsi⟩ : ∃ s, hs[i]? = some s := ⟨hs[i]'(by omega), List.getElem?_eq_getElem _⟩
      simp only [strsOf, List.getElem?_map, hsi, Option.map_some] at d
      have hi0 : (0 : Int) ≤ (i : Int) := by omega
      have HN : Hid (∀ j, j < i → hs[j]? ≠ some h) := hno
      have HI : Hid (hs[i]? = some s) := hsi
      clear hno hsi
      by_cases he : s = h
      · subst he
        go_wp2_with fail
        go_ret
        exact ⟨rfl, _, rfl, .inl ⟨i, rfl, HI.out⟩⟩
      · have hq : (s.toList == h.toList) = false := str_ne he
        go_wp2_with fail
        go_roundw
        case rel =>
          refine ⟨i + 1, by go_num, by omega, fun j hj => ?_, trivial⟩
          by_cases hji : j = i
          · subst hji
            rw [HI.out]
            exact fun e => he (Option.some.inj e)
          · exact HN.out j (by omega)
        case measure => simp [intOf]; omega
    · have hi' : i = hs.length := by omega
      have HN : Hid (∀ j, j < hs.length → hs[j]? ≠ some h) := by rw [← hi']; exact hno
      clear hno
      go_wp2_with fail
      go_ret
      refine ⟨rfl, _, rfl, .inr ⟨rfl, fun hmem => ?_⟩⟩
      obtain ⟨j, hj⟩ := List.getElem?_of_mem hmem
      exact HN.out j (List.getElem?_eq_some_iff.1 hj).1 hj
end Go.Proofs.Qxb6612394a
