import Derived.Test.Qxb6612394aState
import Derived.Laws.OwnMore
namespace Go.Proofs.Qxb6612394a
open Go.RowKit Go.Maps

section
variable {B cb mb : Nat} {w w' : World} {n : Nat} {hs : List ByteArray} {ss ms : List Rw}

/-- A row of another kind is turned. -/
theorem Cs.other (C : Cs B cb mb w n hs ss ms) {row : Option Nat} (hg : w.grownBy w' row) (hrow : ∀ g, row = some g → B ≤ g ∧ ∃ cu t, w.heap[g]? = some (.cells cu t (0, 0)) ∧ t ≠ 31) : Cs B cb mb w' n hs ss ms := by
  obtain ⟨f, m1, m2, m3⟩ := C.map
  have hcB := C.cB
  have hmB := C.mB
  refine ⟨(hg.block cb (blk_lt C.blk) (fun e => by have := (hrow cb e.symm).1; omega)).trans C.blk, ⟨f, m1.kept (hg.block mb m1.lt (fun e => by have := (hrow mb e.symm).1; omega)), m2, m3⟩, C.rows.keep (fun q hq => hg.block q.g (C.rows.own q hq).lt.2 (fun e => ?_)), C.len, C.nodup, C.ne, C.cB, C.mB, Nat.le_trans C.Bw hg.size⟩
  obtain ⟨_, cu, t, h1, h2⟩ := hrow q.g e.symm
  obtain ⟨_, _, cu', h3⟩ := (C.rows.own q hq).cap
  exact typ_ne h1 h3 h2 rfl
/-- One stack more: a new block of one connection. -/
theorem Cs.addStack (C : Cs B cb mb w n hs ss ms) (c0 : Nat) : Cs B cb mb (w.alloc (.cells #[ptr c0] 31)) n hs (ss ++ [⟨w.heap.size, 1, [c0]⟩]) ms := by
  have C' := C.other (w' := w.alloc (.cells #[ptr c0] 31)) (World.grownBy_alloc w _ none) (fun g e => by cases e)
  have hr : Row (w.alloc (.cells #[ptr c0] 31)) B ⟨w.heap.size, 1, [c0]⟩ := ⟨rfl, .inr ⟨w.heap.size, 1, #[ptr c0], rfl, C.Bw, heap_alloc_new w _, Nat.le_refl _, by unfold maxLen; simp, rfl, rfl⟩⟩
  have ha := C.rows.add (w' := w.alloc (.cells #[ptr c0] 31)) (fun q hq => Below.heap_alloc w _ q.g (C.rows.own q hq).lt.2) hr (Nat.le_refl _)
  have hp : (ss ++ ms ++ [(⟨w.heap.size, 1, [c0]⟩ : Rw)]).Perm (ss ++ [⟨w.heap.size, 1, [c0]⟩] ++ ms) := by
    rw [List.append_assoc, List.append_assoc]
    exact List.Perm.append_left ss List.perm_append_comm
  exact ⟨C'.blk, C'.map, ha.perm hp, C'.len, C'.nodup, C'.ne, C'.cB, C'.mB, C'.Bw⟩
end
/-- A row's own block, as 'other' asks it. -/
theorem own_other {w : World} {B m : Nat} {e : TypeId} {v : Value} {xs : List Value} (h : w.ownsRow B e 1 v m xs) (he : e ≠ 31) : ∀ g, v.ownBlock = some g → B ≤ g ∧ ∃ cu t, w.heap[g]? = some (.cells cu t (0, 0)) ∧ t ≠ 31 := fun g hg => by
  obtain ⟨cu, hcu⟩ := own_typ h hg
  exact ⟨(h.lt g hg).1, cu, e, hcu, he⟩
theorem own_two {w : World} {B B' size size' : Nat} {e e' : TypeId} {v v' : Value} {n n' : Nat} {xs xs' : List Value} (h : w.ownsRow B e size v n xs) (h' : w.ownsRow B' e' size' v' n' xs') (he : e ≠ e') : v.ownBlock = none ∨ v.ownBlock ≠ v'.ownBlock := by
  cases hv : v.ownBlock with
  | none => exact .inl rfl
  | some g =>
    right
    intro e1
    obtain ⟨c1, h1⟩ := own_typ h hv
    obtain ⟨c2, h2⟩ := own_typ h' e1.symm
    exact typ_ne h1 h2 he rfl

theorem info57 : (Try.prog.info? 57).isSome = true := by kernel_rfl
theorem neq_same (c : Nat) (w : World) : (binOp .neq 31 (.pointer (some ⟨c, 0, none⟩)) (.pointer (some ⟨c, 0, none⟩))).run Try.prog w = .ok (.bool false) w := by
  obtain ⟨j, hj⟩ := Option.isSome_iff_exists.1 info57
  exact Lib.run_neq_ptr_same w ⟨c, 0, none⟩ Try.underlying31 hj
end Go.Proofs.Qxb6612394a
