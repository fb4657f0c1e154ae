import Derived.Test.Qxb6612394aRows
import Derived.Maps.OwnSet
import Derived.StringKeys
import Derived.WalkKit
import Derived.WalkSpells
namespace Go.Proofs.Qxb6612394a
open Go.RowKit Go.Maps Go.WideMaps

/-- A map's element is read as itself. -/
def Rv (v : Value) : Option (DataW Value × List MemPlace) := some (.held v, [])
theorem keyed9 : Keyed Try.prog 9 := string_keyed Try.underlying9
theorem zero34 (w : World) : (zeroValue 34).run Try.prog w = .ok (.slice none 0 0) w := by kernel_rfl

/-- Block mb is a map of at most n entries; under the key s it holds f s (nothing there: the nil slice). -/
def MapSt (w : World) (mb n : Nat) (f : ByteArray → Value) : Prop :=
  ∃ D : DataW Value, w.ownsMap Try.prog 9 Rv mb n D ∧ ∀ s : ByteArray, D.atKey (.string s.data.toList) (.held (.slice none 0 0)) = .held (f s)

def upd (f : ByteArray → Value) (s : ByteArray) (v : Value) : ByteArray → Value := fun t => if t = s then v else f t

theorem MapSt.made (w : World) : MapSt (w.alloc (.map #[] 0)) w.heap.size 0 (fun _ => .slice none 0 0) :=
  ⟨.map [], World.ownsMap_made w _ _ _, fun _ => rfl⟩
theorem MapSt.lt {w : World} {mb n : Nat} {f : ByteArray → Value} (h : MapSt w mb n f) : mb < w.heap.size := by
  obtain ⟨D, h, _⟩ := h
  exact h.lt
theorem MapSt.kept {w w' : World} {mb n : Nat} {f : ByteArray → Value} (h : MapSt w mb n f) (hk : w'.heap[mb]? = w.heap[mb]?) : MapSt w' mb n f := by
  obtain ⟨D, ⟨es, clock, hb, r⟩, hD⟩ := h
  exact ⟨D, ⟨es, clock, hk.trans hb, r⟩, hD⟩
theorem MapSt.look {w : World} {mb n : Nat} {f : ByteArray → Value} (h : MapSt w mb n f) {s : ByteArray} (hs : s.size ≤ maxLen) :
    (Instr.lookup 37 (.map (some mb)) (.string s) false).run Try.prog w = .ok (f s) w := by
  obtain ⟨D, h, hD⟩ := h
  obtain ⟨v, ps, hrun, hv⟩ := h.lookup keyed9 Try.underlying37 (zero34 w) (zd := .held (.slice none 0 0)) (zp := []) rfl (keyOf_string_mk Try.underlying9 hs)
  rw [hD s] at hv
  simp only [Rv, Option.some.injEq, Prod.mk.injEq, DataW.held.injEq] at hv
  rw [← hv.1]
  exact hrun
theorem bytes_ext {s t : ByteArray} (h : s.data.toList = t.data.toList) : s = t := by
  cases s; cases t
  simp at h
  simpa using h
theorem MapSt.store {w : World} {mb n : Nat} {f : ByteArray → Value} (h : MapSt w mb n f) (hn : n < maxLen) {s : ByteArray} (hs : s.size ≤ maxLen) (v : Value) :
    ∃ w', (Instr.mapUpdate 37 (.map (some mb)) (.string s) v).run Try.prog w = .ok () w' ∧ MapSt w' mb (n + 1) (upd f s v) ∧ w.mapTurned w' mb := by
  obtain ⟨D, h, hD⟩ := h
  obtain ⟨w', hrun, h1, h2⟩ := h.store keyed9 Try.underlying37 hn (keyOf_string_mk Try.underlying9 hs) (d := .held v) (ps := []) rfl
  refine ⟨w', hrun, ⟨_, h1, fun t => ?_⟩, h2⟩
  unfold upd
  by_cases ht : t = s
  · subst ht
    rw [if_pos rfl]
    exact atKey_put_same h.isMap (by simp [WideAt.IsKeyLit]) _ _
  · rw [if_neg ht, atKey_put_other (fun e => ht (bytes_ext (by simpa using e)))]
    exact hD t
end Go.Proofs.Qxb6612394a
