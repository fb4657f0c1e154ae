import Derived.Test.Qxb6612485aFmtRows
import Derived.WalkKit
import Derived.WalkSpells
import Derived.WalkLawsBesides
import Derived.BigQuiet
import Derived.Deep.QuietTactic
import Derived.Deep.AppendLies
import Derived.Lib.Builder
import Derived.Lib.SmallJoins
namespace Go.Proofs.Qxb6612485aFmt
open Go.RowKit

/-! ### A block, whole -/
theorem blk_cell {w : World} {b : Nat} {cs : Array Value} {t : TypeId} {fr : Nat × Nat} (hb : w.heap[b]? = some (.cells cs t fr)) (i : Nat) : w.cell? ⟨b, i, none⟩ = cs[i]? := Lib.cell_of_heap hb i
theorem blk_frozen {w : World} {b : Nat} {cs : Array Value} {t : TypeId} (hb : w.heap[b]? = some (.cells cs t (0, 0))) (i : Nat) : w.frozen? ⟨b, i, none⟩ = false := Lib.frozen_of_heap hb i
theorem blk_lt {w : World} {b : Nat} {o : Obj} (hb : w.heap[b]? = some o) : b < w.heap.size := by
  rcases Nat.lt_or_ge b w.heap.size with h' | h'
  · exact h'
  · simp [Array.getElem?_eq_none h'] at hb
theorem blk_set {w : World} {b : Nat} {cs : Array Value} {t : TypeId} {fr : Nat × Nat} (hb : w.heap[b]? = some (.cells cs t fr)) (i : Nat) (v : Value) :
    (w.setCell ⟨b, i, none⟩ v).heap[b]? = some (.cells (cs.setIfInBounds i v) t fr) := by
  simp [World.setCell, Array.getElem?_modify, hb]
theorem blk_alloc {w : World} {b : Nat} {x : Obj} (hb : w.heap[b]? = some x) (o : Obj) : (w.alloc o).heap[b]? = some x := by
  rw [Below.heap_alloc w o b (blk_lt hb)]; exact hb
theorem size_set (w : World) (a : Addr) (v : Value) : (w.setCell a v).heap.size = w.heap.size := by simp [World.setCell]
theorem heap_set (w : World) (a : Addr) (v : Value) (k : Nat) (h : k ≠ a.block) : (w.setCell a v).heap[k]? = w.heap[k]? := Below.heap_setCell w a v k h
theorem below_drewN {B : Nat} {a w : World} (h : Below B a w) (n : Nat) : Below B a (w.drewN n) := ⟨h.os, h.tape, h.output, h.size, h.block⟩
theorem own_ne {w : World} {B size : Nat} {e T : TypeId} {v : Value} {n : Nat} {xs : List Value} {b : Nat} {cs : Array Value} {fr : Nat × Nat} (hown : w.ownsRow B e size v n xs) (hb : w.heap[b]? = some (.cells cs T fr)) (hTe : T ≠ e) : v.ownBlock ≠ some b := by
  rcases hown.2 with ⟨rfl, _⟩ | ⟨g, cap, cur, rfl, _, hg, _⟩
  · simp [Value.ownBlock]
  · intro h
    simp only [Value.ownBlock, Option.some.injEq] at h
    subst h
    rw [hg] at hb
    simp only [Option.some.injEq, Obj.cells.injEq] at hb
    exact hTe hb.2.1.symm
/-- Two rows of two kinds lie in two blocks. -/
theorem own_two {w : World} {B B' size size' : Nat} {e e' : TypeId} {v v' : Value} {n n' : Nat} {xs xs' : List Value} (h : w.ownsRow B e size v n xs) (h' : w.ownsRow B' e' size' v' n' xs') (he : e ≠ e') : v.ownBlock = none ∨ v.ownBlock ≠ v'.ownBlock := by
  rcases h.2 with ⟨rfl, _⟩ | ⟨g, cap, cur, rfl, _, hg, _⟩
  · exact .inl rfl
  · exact .inr fun hh => own_ne h' hg he hh.symm

theorem own_low {w : World} {B size : Nat} {e : TypeId} {v : Value} {n : Nat} {xs : List Value} (hown : w.ownsRow B e size v n xs) {k : Nat} (hk : k < B) : some k ≠ v.ownBlock := fun h => by
  have := (hown.lt k h.symm).1
  omega

def bytesOf (l : List Int) : List Value := l.map (Value.int .u8)
theorem bytesOf_length (l : List Int) : (bytesOf l).length = l.length := by simp [bytesOf]
theorem bytesOf_app (a b : List Int) : bytesOf (a ++ b) = bytesOf a ++ bytesOf b := by simp [bytesOf]
theorem info5 : (Tryf.prog.info? 5).map (fun i => (i.zero, i.size, i.bytes)) = some (some (.int .u8 0), 1, 1) := by kernel_rfl
theorem info22 : (Tryf.prog.info? 22).map (fun i => (i.zero, i.size, i.bytes)) = some (some (.slice none 0 0), 1, 24) := by kernel_rfl
theorem info3 : (Tryf.prog.info? 3).map (fun i => (i.zero, i.size, i.bytes)) = some (some (.int .i64 0), 1, 8) := by kernel_rfl

/-- WHAT THE TWO BOXES HOLD, that ZZwalkDHCPv4Field makes at blocks b and b + 1: the codes so far, the datas so far. -/
def Box (b : Nat) (w : World) (cs : List Int) (ds : List Value) : Prop :=
  ∃ vc vd : Value, w.heap[b]? = some (.cells #[vc] 22 (0, 0)) ∧ w.heap[b + 1]? = some (.cells #[vd] 25 (0, 0)) ∧
    w.ownsRow (b + 2) 5 1 vc cs.length (bytesOf cs) ∧ w.ownsRow (b + 2) 22 1 vd ds.length ds

theorem one_new (w : World) (u : Value) (t : TypeId) : ∀ j v, [u][j]? = some v → (w.alloc (.cells #[u] t)).cell? ((⟨w.heap.size, 0, none⟩ : Addr).add j) = some v := by
  intro j v hv
  have hadd : (⟨w.heap.size, 0, none⟩ : Addr).add j = ⟨w.heap.size, j, none⟩ := by unfold Addr.add; split <;> simp_all
  rw [hadd, blk_cell (heap_alloc_new w _)]
  simpa using hv

set_option maxRecDepth 100000 in
set_option maxHeartbeats 2000000 in
/-- The visit: one code, one piece of data more. -/
theorem visit_any (b : Nat) (c : Int) (a : Option Addr) (n cap : Nat) (cs : List Int) (ds : List Value) (w : World) (h : Box b w cs ds) (hc : cs.length ≤ 10000000) (hd : ds.length ≤ 10000000) :
    Calls Tryf.prog 12 #[.int .u8 c, .slice a n cap, .pointer (some ⟨b, 0, none⟩), .pointer (some ⟨b + 1, 0, none⟩)] w fun e w' => e = .returned (.tuple #[]) ∧
      Box b w' (cs ++ [c]) (ds ++ [.slice a n cap]) ∧ Below b w w' := by
  obtain ⟨i5, hi5, h50, h51, h52⟩ := info_parts info5
  obtain ⟨i22, hi22, h220, h221, h222⟩ := info_parts info22
  obtain ⟨vc, vd, hb0, hb1, ho0, ho1⟩ := h
  have c0 := blk_cell hb0
  have c1 := blk_cell hb1
  have f0 := blk_frozen hb0
  have f1 := blk_frozen hb1
  have l0 := blk_lt hb0
  have l1 := blk_lt hb1
  go_enter Tryf.func12, Tryf.ntmps12
  go_wp2_with (at_builtin; refine wpList_append_own _ rfl _ _ 22 rfl (b + 2) 5 i5 (.int .u8 0) 1 1 Tryf.underlying22 hi5 h50 h51 h52 rfl (by decide) _ _ _ rfl (ho0.alloc _) ⟨w.heap.size, 0, none⟩ 1 1 [.int .u8 c] rfl rfl (one_new _ _ _) (by simp [Value.oneCell']) ?c3 ?c4 ?c5 ?_)
  case c3 => unfold maxLen; omega
  case c4 => omega
  case c5 => simp; omega
  intro v1 w1 hown1 hg1 _
  obtain ⟨g1, cap1, hv1, _, _⟩ := hown1.form (by omega)
  subst hv1
  have hb0' : w1.heap[b]? = some (.cells #[vc] 22 (0, 0)) := (hg1.block b (by simp; omega) (own_low ho0 (by omega))).trans (blk_alloc hb0 _)
  have hb1' : w1.heap[b + 1]? = some (.cells #[vd] 25 (0, 0)) := (hg1.block (b + 1) (by simp; omega) (own_low ho0 (by omega))).trans (blk_alloc hb1 _)
  have ho1' : w1.ownsRow (b + 2) 22 1 vd ds.length ds := (ho1.alloc _).kept hg1 (own_two ho1 ho0 (by decide))
  have hbel : Below b w w1 := ((Below.refl b w).alloc (by omega) _).grown hg1 (by simp; omega) (fun k hk => by have := (ho0.lt k hk).1; omega)
  have hbel2 : w.heap.size ≤ w1.heap.size := by have := hg1.size; simp at this; omega
  clear hg1 hb0 hb1 ho0 ho1 c0 c1 f0 f1
  have hB0 : (w1.setCell ⟨b, 0, none⟩ (.slice (some ⟨g1, 0, none⟩) (cs.length + 1) cap1)).heap[b]? = some (.cells #[.slice (some ⟨g1, 0, none⟩) (cs.length + 1) cap1] 22 (0, 0)) := blk_set hb0' 0 (.slice (some ⟨g1, 0, none⟩) (cs.length + 1) cap1)
  have hB1 : (w1.setCell ⟨b, 0, none⟩ (.slice (some ⟨g1, 0, none⟩) (cs.length + 1) cap1)).heap[b + 1]? = some (.cells #[vd] 25 (0, 0)) := (heap_set _ _ _ _ (by show b + 1 ≠ b; omega)).trans hb1'
  have hO0 := ownsRow_setCell_below hown1 (a := ⟨b, 0, none⟩) (by show b < b + 2; omega) (.slice (some ⟨g1, 0, none⟩) (cs.length + 1) cap1)
  have hO1 := ownsRow_setCell_below ho1' (a := ⟨b, 0, none⟩) (by show b < b + 2; omega) (.slice (some ⟨g1, 0, none⟩) (cs.length + 1) cap1)
  have hBel : Below b w (w1.setCell ⟨b, 0, none⟩ (.slice (some ⟨g1, 0, none⟩) (cs.length + 1) cap1)) := hbel.setCell (p := ⟨b, 0, none⟩) (Nat.le_refl b) _
  have hsz2 : (w1.setCell ⟨b, 0, none⟩ (.slice (some ⟨g1, 0, none⟩) (cs.length + 1) cap1)).heap.size = w1.heap.size := size_set _ _ _
  have c0 := blk_cell hb0'
  have f0 := blk_frozen hb0'
  have l0' := blk_lt hb0'
  have c1 := blk_cell hb1'
  have f1 := blk_frozen hb1'
  have l1' := blk_lt hb1'
  go_wp2_with (at_builtin; refine wpList_append_own _ rfl _ _ 25 rfl (b + 2) 22 i22 (.slice none 0 0) 1 24 Tryf.underlying25 hi22 h220 h221 h222 rfl (by decide) _ _ _ rfl (hO1.alloc _) ⟨w1.heap.size, 0, none⟩ 1 1 [.slice a n cap] rfl rfl (by have := one_new (w1.setCell ⟨b, 0, none⟩ (.slice (some ⟨g1, 0, none⟩) (cs.length + 1) cap1)) (.slice a n cap) 22; rw [size_set] at this; exact this) (by simp [Value.oneCell']) ?c3 ?c4 ?c5 ?_)
  case c3 => unfold maxLen; omega
  case c4 => omega
  case c5 => simp; omega
  intro v2 w3 hown3 hg3 _
  obtain ⟨g2, cap2, hv2, _, _⟩ := hown3.form (by omega)
  subst hv2
  have hb0'' : w3.heap[b]? = some (.cells #[.slice (some ⟨g1, 0, none⟩) (cs.length + 1) cap1] 22 (0, 0)) := (hg3.block b (by simp; omega) (own_low hO1 (by omega))).trans (blk_alloc hB0 _)
  have hb1'' : w3.heap[b + 1]? = some (.cells #[vd] 25 (0, 0)) := (hg3.block (b + 1) (by simp; omega) (own_low hO1 (by omega))).trans (blk_alloc hB1 _)
  have ho0'' := (hO0.alloc _).kept hg3 (own_two hO0 hO1 (by decide))
  have hbel3 : Below b w w3 := (hBel.alloc (by rw [hsz2]; omega) _).grown hg3 (by simp; omega) (fun k hk => by have := (hO1.lt k hk).1; omega)
  clear hg3 c1 f1 l1' c0 f0 l0' hb0' hb1' hB0 hB1 hO0 hO1
  have c1 := blk_cell hb1''
  have f1 := blk_frozen hb1''
  have l1 := blk_lt hb1''
  go_wp2_with fail
  go_end0
  refine ⟨rfl, ⟨_, _, (heap_set _ _ _ _ (by show b ≠ b + 1; omega)).trans hb0'', blk_set hb1'' 0 (.slice (some ⟨g2, 0, none⟩) (ds.length + 1) cap2), ?_, ?_⟩, hbel3.setCell (p := ⟨b + 1, 0, none⟩) (by show b ≤ b + 1; omega) _⟩
  · have := ownsRow_setCell_below ho0'' (a := ⟨b + 1, 0, none⟩) (by show b + 1 < b + 2; omega) (.slice (some ⟨g2, 0, none⟩) (ds.length + 1) cap2)
    rw [bytesOf_app, List.length_append]
    exact this
  · have := ownsRow_setCell_below hown3 (a := ⟨b + 1, 0, none⟩) (by show b + 1 < b + 2; omega) (.slice (some ⟨g2, 0, none⟩) (ds.length + 1) cap2)
    rw [List.length_append]
    exact this
end Go.Proofs.Qxb6612485aFmt
