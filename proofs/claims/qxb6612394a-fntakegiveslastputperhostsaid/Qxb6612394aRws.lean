import Derived.Test.Qxb6612394aSmall
namespace Go.Proofs.Qxb6612394a
open Go.RowKit Go.Maps

/-- A row of connections: its block, its capacity, the connections' blocks. -/
structure Rw where
  g : Nat
  cap : Nat
  l : List Nat
def ptr (c : Nat) : Value := .pointer (some ⟨c, 0, none⟩)
def ptrs (l : List Nat) : List Value := l.map ptr
abbrev rowVal (r : Rw) : Value := .slice (some ⟨r.g, 0, none⟩) r.l.length r.cap
def Row (w : World) (B : Nat) (r : Rw) : Prop := w.ownsRow B 31 1 (rowVal r) r.l.length (ptrs r.l)
/-- The rows, each in a block of its own. -/
structure Rws (w : World) (B : Nat) (rs : List Rw) : Prop where
  own : ∀ r ∈ rs, Row w B r
  apart : (rs.map (fun r => r.g)).Nodup

theorem own_keep {w w' : World} {B size n : Nat} {e : TypeId} {v : Value} {xs : List Value} (h : w.ownsRow B e size v n xs) (hk : ∀ g, v.ownBlock = some g → w'.heap[g]? = w.heap[g]?) : w'.ownsRow B e size v n xs := by
  refine ⟨h.1, ?_⟩
  rcases h.2 with h' | ⟨g, cap, cur, rfl, hb, hg, rest⟩
  · exact .inl h'
  · exact .inr ⟨g, cap, cur, rfl, hb, (hk g rfl).trans hg, rest⟩
theorem Row.keep {w w' : World} {B : Nat} {r : Rw} (h : Row w B r) (hk : w'.heap[r.g]? = w.heap[r.g]?) : Row w' B r :=
  own_keep h (fun g hg => by have e : r.g = g := by simpa [Value.ownBlock] using hg
                             rw [← e]; exact hk)
theorem Row.lt {w : World} {B : Nat} {r : Rw} (h : Row w B r) : B ≤ r.g ∧ r.g < w.heap.size := World.ownsRow.lt h r.g rfl
theorem Row.cap {w : World} {B : Nat} {r : Rw} (h : Row w B r) : r.l.length ≤ r.cap ∧ r.cap ≤ maxLen ∧ ∃ cur, w.heap[r.g]? = some (.cells cur 31 (0, 0)) := by
  rcases h.2 with ⟨h', _⟩ | ⟨g, cap, cur, hv, _, hg, h1, h2, _⟩
  · cases h'
  · injection hv with e1 _ e3
    simp only [Option.some.injEq, Addr.mk.injEq] at e1
    obtain ⟨rfl, _⟩ := e1
    subst e3
    exact ⟨h1, h2, cur, hg⟩
theorem Row.cell {w : World} {B : Nat} {r : Rw} (h : Row w B r) {i c : Nat} (hi : r.l[i]? = some c) : w.cell? ⟨r.g, i, none⟩ = some (ptr c) := by
  have hl : i < r.l.length := (List.getElem?_eq_some_iff.1 hi).1
  obtain ⟨ao, cp, hv, hr⟩ := own_read h
  obtain ⟨g, e, _, _, d⟩ := hr i hl
  injection hv with e1
  rw [e] at e1
  simp only [Option.some.injEq, Addr.mk.injEq] at e1
  rw [e1.1, d, ptrs, List.getElem?_map, hi]
  rfl
/-- The last one goes. -/
theorem Row.pop {w : World} {B g cap : Nat} {l : List Nat} {c : Nat} (h : Row w B ⟨g, cap, l ++ [c]⟩) : Row w B ⟨g, cap, l⟩ := by
  rcases h.2 with ⟨h', _⟩ | ⟨g', cap', cur, hv, hb, hg, h1, h2, h3, ht⟩
  · cases h'
  · injection hv with e1 _ e3
    simp only [Option.some.injEq, Addr.mk.injEq] at e1
    obtain ⟨rfl, _⟩ := e1
    subst e3
    simp only [List.length_append, List.length_cons, List.length_nil, Nat.mul_one] at h1 h2 h3 ht
    refine ⟨by simp [ptrs], .inr ⟨g, cap, cur, rfl, hb, hg, by show l.length ≤ cap; omega, h2, by show cur.size = cap * 1; omega, ?_⟩⟩
    have := congrArg (List.take l.length) ht
    simp only [ptrs, List.map_append, List.take_take] at this
    rw [show min l.length (l.length + (0 + 1)) = l.length by omega] at this
    rw [Nat.mul_one, this, ptrs]
    exact List.take_left' (by simp)

theorem Rws.keep {w w' : World} {B : Nat} {rs : List Rw} (h : Rws w B rs) (hk : ∀ r ∈ rs, w'.heap[r.g]? = w.heap[r.g]?) : Rws w' B rs :=
  ⟨fun r hr => (h.own r hr).keep (hk r hr), h.apart⟩
theorem Rws.perm {w : World} {B : Nat} {rs rs' : List Rw} (h : Rws w B rs) (hp : rs.Perm rs') : Rws w B rs' :=
  ⟨fun r hr => h.own r (hp.mem_iff.2 hr), (hp.map _).nodup_iff.1 h.apart⟩
/-- One row is turned: it stays in its block, or goes to a new one. -/
theorem Rws.set {w w' : World} {B i : Nat} {rs : List Rw} {r r' : Rw} (h : Rws w B rs) (hi : rs[i]? = some r) (hk : ∀ q ∈ rs, q.g ≠ r.g → w'.heap[q.g]? = w.heap[q.g]?) (hr : Row w' B r') (hg : r'.g = r.g ∨ w.heap.size ≤ r'.g) : Rws w' B (rs.set i r') := by
  have hlt : i < rs.length := (List.getElem?_eq_some_iff.1 hi).1
  have hri : rs[i] = r := (List.getElem?_eq_some_iff.1 hi).2
  have hne : ∀ j q, rs[j]? = some q → j ≠ i → q.g ≠ r.g := by
    intro j q hj hji e
    have hj' : j < rs.length := (List.getElem?_eq_some_iff.1 hj).1
    have h1 : (rs.map (fun r => r.g))[j]? = some r.g := by rw [List.getElem?_map, hj, ← e]; rfl
    have h2 : (rs.map (fun r => r.g))[i]? = some r.g := by rw [List.getElem?_map, hi]; rfl
    exact hji ((List.getElem?_inj (by simpa using hj') h.apart).1 (h1.trans h2.symm))
  refine ⟨fun q hq => ?_, ?_⟩
  · obtain ⟨j, hj⟩ := List.getElem?_of_mem hq
    by_cases hji : j = i
    · subst hji
      rw [List.getElem?_set_self hlt] at hj
      cases hj
      exact hr
    · rw [List.getElem?_set_ne (Ne.symm hji)] at hj
      exact (h.own q (List.mem_of_getElem? hj)).keep (hk q (List.mem_of_getElem? hj) (hne j q hj hji))
  · rw [List.map_set]
    rcases hg with e | e
    · rw [e]
      have : (rs.map (fun r => r.g)).set i r.g = rs.map (fun r => r.g) := by
        apply List.ext_getElem?
        intro j
        by_cases hji : j = i
        · subst hji
          rw [List.getElem?_set_self (by simpa using hlt), List.getElem?_map, hi]
          rfl
        · rw [List.getElem?_set_ne (Ne.symm hji)]
      rw [this]
      exact h.apart
    · have hold : ∀ x ∈ rs.map (fun r => r.g), x < w.heap.size := by
        intro x hx
        obtain ⟨q, hq, rfl⟩ := List.mem_map.1 hx
        exact (h.own q hq).lt.2
      have hap := List.pairwise_iff_getElem.1 h.apart
      refine List.pairwise_iff_getElem.2 (fun a b ha hb hab => ?_)
      have ha' : a < (rs.map (fun r => r.g)).length := by simpa using ha
      have hb' : b < (rs.map (fun r => r.g)).length := by simpa using hb
      rw [List.getElem_set, List.getElem_set]
      have h1 := hold _ (List.getElem_mem ha')
      have h2 := hold _ (List.getElem_mem hb')
      by_cases hai : i = a
      · rw [if_pos hai, if_neg (by omega)]
        omega
      · rw [if_neg hai]
        by_cases hbi : i = b
        · rw [if_pos hbi]
          omega
        · rw [if_neg hbi]
          exact hap a b ha' hb' hab
/-- One row more, in a new block. -/
theorem Rws.add {w w' : World} {B : Nat} {rs : List Rw} {r' : Rw} (h : Rws w B rs) (hk : ∀ q ∈ rs, w'.heap[q.g]? = w.heap[q.g]?) (hr : Row w' B r') (hg : w.heap.size ≤ r'.g) : Rws w' B (rs ++ [r']) := by
  refine ⟨fun q hq => ?_, ?_⟩
  · rcases List.mem_append.1 hq with hq | hq
    · exact (h.own q hq).keep (hk q hq)
    · have : q = r' := by simpa using hq
      subst this
      exact hr
  · rw [List.map_append, List.nodup_append]
    refine ⟨h.apart, by simp, fun x hx y hy => ?_⟩
    obtain ⟨q, hq, rfl⟩ := List.mem_map.1 hx
    have := (h.own q hq).lt.2
    have e : y = r'.g := by simpa using hy
    omega
end Go.Proofs.Qxb6612394a
