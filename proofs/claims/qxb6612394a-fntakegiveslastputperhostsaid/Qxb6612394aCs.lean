import Derived.Test.Qxb6612394aRws
namespace Go.Proofs.Qxb6612394a
open Go.RowKit Go.Maps

/-- THE CLUSTER AND THE LAW's STACKS IN MEMORY: under the hosts hs the map holds the rows ms; the stacks' rows ss lie beside them. -/
structure Cs (B cb mb : Nat) (w : World) (n : Nat) (hs : List ByteArray) (ss ms : List Rw) : Prop where
  blk : w.heap[cb]? = some (.cells (CL mb 0) 51 (0, 0))
  map : ∃ f, MapSt w mb n f ∧ (∀ (k : Nat) (h : ByteArray) (r : Rw), hs[k]? = some h → ms[k]? = some r → f h = rowVal r) ∧ ∀ h, h ∉ hs → f h = .slice none 0 0
  rows : Rws w B (ss ++ ms)
  len : hs.length = ms.length
  nodup : hs.Nodup
  ne : mb ≠ cb
  cB : cb < B
  mB : mb < B
  Bw : B ≤ w.heap.size

theorem Cs.keep {B cb mb : Nat} {w w' : World} {n : Nat} {hs : List ByteArray} {ss ms : List Rw} (h : Cs B cb mb w n hs ss ms) (hk : ∀ k, k < w.heap.size → w'.heap[k]? = w.heap[k]?) (hsz : w.heap.size ≤ w'.heap.size) : Cs B cb mb w' n hs ss ms := by
  obtain ⟨f, m1, m2, m3⟩ := h.map
  exact ⟨(hk cb (blk_lt h.blk)).trans h.blk, ⟨f, m1.kept (hk mb m1.lt), m2, m3⟩, h.rows.keep (fun r hr => hk r.g (h.rows.own r hr).lt.2), h.len, h.nodup, h.ne, h.cB, h.mB, Nat.le_trans h.Bw hsz⟩

theorem nodup_at {hs : List ByteArray} (h : hs.Nodup) {i j : Nat} {x : ByteArray} (hi : hs[i]? = some x) (hj : hs[j]? = some x) : i = j :=
  (List.getElem?_inj (List.getElem?_eq_some_iff.1 hi).1 h).1 (hi.trans hj.symm)

theorem set_right {α : Type} (a b : List α) (i : Nat) (x : α) : (a ++ b).set (a.length + i) x = a ++ b.set i x := by
  rw [List.set_append_right _ _ (by omega)]
  congr 2
  omega
theorem get_right {α : Type} (a b : List α) (i : Nat) : (a ++ b)[a.length + i]? = b[i]? := by
  rw [List.getElem?_append_right (by omega)]
  congr 1
  omega

set_option maxRecDepth 100000 in
set_option maxHeartbeats 1000000 in
theorem zzput (cb : Nat) (h : ByteArray) (c0 : Nat) (w : World) {R : World → Prop} (hc : Calls Try.prog 10 #[.pointer (some ⟨cb, 0, none⟩), .string h, ptr c0] w fun e w' => e = .returned (.tuple #[]) ∧ R w') :
    Calls Try.prog 8 #[.pointer (some ⟨cb, 0, none⟩), .string h, ptr c0] w fun e w' => e = .returned (.tuple #[]) ∧ R w' := by
  unfold ptr at *
  go_enter Try.func8, Try.ntmps8
  go_wp2_with fail
  refine hc.mono ?_
  rintro e w' ⟨rfl, hR⟩
  go_wp2_with fail
  go_end0
  exact ⟨rfl, hR⟩
set_option maxRecDepth 100000 in
set_option maxHeartbeats 1000000 in
theorem zztake (cb : Nat) (h : ByteArray) (v : Value) (w : World) {R : World → Prop} (hc : Calls Try.prog 11 #[.pointer (some ⟨cb, 0, none⟩), .string h] w fun e w' => e = .returned v ∧ R w') :
    Calls Try.prog 9 #[.pointer (some ⟨cb, 0, none⟩), .string h] w fun e w' => e = .returned v ∧ R w' := by
  go_enter Try.func9, Try.ntmps9
  go_wp2_with fail
  refine hc.mono ?_
  rintro e w' ⟨rfl, hR⟩
  go_wp2_with fail
  go_ret
  exact ⟨rfl, hR⟩

section
variable {B cb mb : Nat} {w : World} {n : Nat} {hs : List ByteArray} {ss ms : List Rw}

/-- put to a host that is known. -/
theorem put_old (C : Cs B cb mb w n hs ss ms) {h : ByteArray} (hh : h.size ≤ maxLen) (hn : n < maxLen) {k : Nat} {r : Rw} (hk : hs[k]? = some h) (hr : ms[k]? = some r) (hl : r.l.length ≤ 2000000) (c0 : Nat) :
    Calls Try.prog 8 #[.pointer (some ⟨cb, 0, none⟩), .string h, ptr c0] w fun e w' => e = .returned (.tuple #[]) ∧ ∃ r' : Rw, r'.l = r.l ++ [c0] ∧ Cs B cb mb w' (n + 1) hs ss (ms.set k r') ∧ Kept2 w w' mb (some r.g) := by
  obtain ⟨f, m1, m2, m3⟩ := C.map
  have hrow : Row w B r := C.rows.own r (List.mem_append_right _ (List.mem_of_getElem? hr))
  refine zzput cb h c0 w ((put_any cb mb n B r.l.length c0 (rowVal r) (ptrs r.l) f h w hh hn C.blk m1 C.ne (m2 k h r hk hr) hrow hl C.cB C.mB C.Bw).mono ?_)
  rintro e w' ⟨rfl, g', cap', ho, hm, hat, hK⟩
  have hK' : Kept2 w w' mb (some r.g) := hK
  have hrow' : Row w' B ⟨g', cap', r.l ++ [c0]⟩ := by
    unfold Row rowVal
    simp only [List.length_append, List.length_cons, List.length_nil, ptrs, List.map_append]
    exact ho
  refine ⟨rfl, ⟨g', cap', r.l ++ [c0]⟩, rfl, ⟨(hK'.block cb (blk_lt C.blk) C.ne.symm (fun e => by have := hrow.lt.1; have := C.cB; simp only [Option.some.injEq] at e; omega)).trans C.blk, ⟨_, hm, ?_, ?_⟩, ?_, by simpa using C.len, C.nodup, C.ne, C.cB, C.mB, Nat.le_trans C.Bw hK'.size⟩, hK'⟩
  · intro j x q hj hq
    unfold upd
    by_cases hjk : j = k
    · subst hjk
      obtain rfl : h = x := Option.some.inj (hk.symm.trans hj)
      rw [if_pos rfl]
      rw [List.getElem?_set_self (List.getElem?_eq_some_iff.1 hr).1] at hq
      cases hq
      simp
    · have hx : x ≠ h := fun e => hjk (nodup_at C.nodup (e ▸ hj) hk)
      rw [if_neg hx]
      rw [List.getElem?_set_ne (Ne.symm hjk)] at hq
      exact m2 j x q hj hq
  · intro x hx
    unfold upd
    rw [if_neg (fun e : x = h => hx (e ▸ List.mem_of_getElem? hk))]
    exact m3 x hx
  · rw [← set_right]
    refine C.rows.set (r := r) (by rw [get_right]; exact hr) (fun q hq hne => hK'.block q.g (C.rows.own q hq).lt.2 (by have := (C.rows.own q hq).lt.1; have := C.mB; omega) (fun e => hne (Option.some.inj e))) hrow' ?_
    rcases hat with e | e
    · left
      simp only [Value.ownBlock, Option.some.injEq] at e
      exact e.symm
    · exact .inr e

/-- put to a host that is new. -/
theorem put_new (C : Cs B cb mb w n hs ss ms) {h : ByteArray} (hh : h.size ≤ maxLen) (hn : n < maxLen) (hk : h ∉ hs) (c0 : Nat) :
    Calls Try.prog 8 #[.pointer (some ⟨cb, 0, none⟩), .string h, ptr c0] w fun e w' => e = .returned (.tuple #[]) ∧ ∃ r' : Rw, r'.l = [c0] ∧ Cs B cb mb w' (n + 1) (hs ++ [h]) ss (ms ++ [r']) ∧ Kept2 w w' mb none := by
  obtain ⟨f, m1, m2, m3⟩ := C.map
  refine zzput cb h c0 w ((put_any cb mb n B 0 c0 (.slice none 0 0) [] f h w hh hn C.blk m1 C.ne (m3 h hk) (World.ownsRow_nil _ _ _ _) (by omega) C.cB C.mB C.Bw).mono ?_)
  rintro e w' ⟨rfl, g', cap', ho, hm, hat, hK⟩
  have hK' : Kept2 w w' mb none := hK
  have hrow' : Row w' B ⟨g', cap', [c0]⟩ := ho
  have hge : w.heap.size ≤ g' := by
    rcases hat with e | e
    · cases e
    · exact e
  refine ⟨rfl, ⟨g', cap', [c0]⟩, rfl, ⟨(hK'.block cb (blk_lt C.blk) C.ne.symm (by simp)).trans C.blk, ⟨_, hm, ?_, ?_⟩, ?_, by simpa using C.len, ?_, C.ne, C.cB, C.mB, Nat.le_trans C.Bw hK'.size⟩, hK'⟩
  · intro j x q hj hq
    unfold upd
    have hjl := (List.getElem?_eq_some_iff.1 hj).1
    rw [List.length_append] at hjl
    simp only [List.length_cons, List.length_nil] at hjl
    by_cases hjn : j < hs.length
    · rw [List.getElem?_append_left hjn] at hj
      rw [List.getElem?_append_left (by rw [← C.len]; exact hjn)] at hq
      rw [if_neg (fun e : x = h => hk (e ▸ List.mem_of_getElem? hj))]
      exact m2 j x q hj hq
    · obtain rfl : j = hs.length := by omega
      rw [List.getElem?_append_right (Nat.le_refl _)] at hj
      rw [C.len, List.getElem?_append_right (Nat.le_refl _)] at hq
      simp only [Nat.sub_self, List.getElem?_cons_zero, Option.some.injEq] at hj hq
      subst hj hq
      rw [if_pos rfl]
      rfl
  · intro x hx
    unfold upd
    rw [List.mem_append] at hx
    rw [if_neg (fun e => hx (.inr (by simp [e])))]
    exact m3 x (fun e => hx (.inl e))
  · rw [← List.append_assoc]
    exact C.rows.add (fun q hq => hK'.block q.g (C.rows.own q hq).lt.2 (by have := (C.rows.own q hq).lt.1; have := C.mB; omega) (by simp)) hrow' hge
  · rw [List.nodup_append]
    refine ⟨C.nodup, by simp, fun x hx y hy => ?_⟩
    have : y = h := by simpa using hy
    subst this
    exact fun e => hk (e ▸ hx)

/-- take, where nothing is kept. -/
theorem take_nil (C : Cs B cb mb w n hs ss ms) {h : ByteArray} (hh : h.size ≤ maxLen) (hk : h ∉ hs ∨ ∃ (k : Nat) (r : Rw), hs[k]? = some h ∧ ms[k]? = some r ∧ r.l = []) :
    Calls Try.prog 9 #[.pointer (some ⟨cb, 0, none⟩), .string h] w fun e w' => e = .returned (.pointer none) ∧ Cs B cb mb w' n hs ss ms ∧ Kept2 w w' mb none := by
  obtain ⟨f, m1, m2, m3⟩ := C.map
  obtain ⟨ao, cp, hf⟩ : ∃ ao cp, f h = .slice ao 0 cp := by
    rcases hk with hk | ⟨k, r, h1, h2, h3⟩
    · exact ⟨_, _, m3 h hk⟩
    · exact ⟨_, _, (m2 k h r h1 h2).trans (by unfold rowVal; rw [h3]; rfl)⟩
  refine zztake cb h _ w ((take_none cb mb n f h ao cp w hh C.blk m1 C.ne hf).mono ?_)
  rintro e w' ⟨rfl, hm, hK⟩
  exact ⟨rfl, ⟨(hK.block cb (blk_lt C.blk) C.ne.symm (by simp)).trans C.blk, ⟨f, hm, m2, m3⟩, C.rows.keep (fun q hq => hK.block q.g (C.rows.own q hq).lt.2 (by have := (C.rows.own q hq).lt.1; have := C.mB; omega) (by simp)), C.len, C.nodup, C.ne, C.cB, C.mB, Nat.le_trans C.Bw hK.size⟩, hK⟩

/-- take, where something is kept: the last one put. -/
theorem take_last (C : Cs B cb mb w n hs ss ms) {h : ByteArray} (hh : h.size ≤ maxLen) (hn : n < maxLen) {k g cap : Nat} {l : List Nat} {c : Nat} (hk : hs[k]? = some h) (hr : ms[k]? = some ⟨g, cap, l ++ [c]⟩) (hl : l.length ≤ 2000000) :
    Calls Try.prog 9 #[.pointer (some ⟨cb, 0, none⟩), .string h] w fun e w' => e = .returned (ptr c) ∧ Cs B cb mb w' (n + 1) hs ss (ms.set k ⟨g, cap, l⟩) ∧ Kept2 w w' mb none := by
  obtain ⟨f, m1, m2, m3⟩ := C.map
  have hrow : Row w B ⟨g, cap, l ++ [c]⟩ := C.rows.own _ (List.mem_append_right _ (List.mem_of_getElem? hr))
  have hcap := hrow.cap.1
  have hlt := hrow.lt
  simp only [List.length_append, List.length_cons, List.length_nil] at hcap
  refine zztake cb h _ w ((take_some cb mb n g l.length cap c f h w hh hn C.blk m1 C.ne ((m2 k h _ hk hr).trans (by unfold rowVal; simp)) hcap hl (by have := hlt.1; have := C.cB; simp only at *; omega) hlt.2 (hrow.cell (by simp))).mono ?_)
  rintro e w' ⟨rfl, hm, hK⟩
  have hkeep : ∀ q ∈ ss ++ ms, w'.heap[q.g]? = w.heap[q.g]? := fun q hq => hK.block q.g (C.rows.own q hq).lt.2 (by have := (C.rows.own q hq).lt.1; have := C.mB; omega) (by simp)
  refine ⟨rfl, ⟨(hK.block cb (blk_lt C.blk) C.ne.symm (by simp)).trans C.blk, ⟨_, hm, ?_, ?_⟩, ?_, by simpa using C.len, C.nodup, C.ne, C.cB, C.mB, Nat.le_trans C.Bw hK.size⟩, hK⟩
  · intro j x q hj hq
    unfold upd
    by_cases hjk : j = k
    · subst hjk
      obtain rfl : h = x := Option.some.inj (hk.symm.trans hj)
      rw [if_pos rfl]
      rw [List.getElem?_set_self (List.getElem?_eq_some_iff.1 hr).1] at hq
      cases hq
      rfl
    · have hx : x ≠ h := fun e => hjk (nodup_at C.nodup (e ▸ hj) hk)
      rw [if_neg hx]
      rw [List.getElem?_set_ne (Ne.symm hjk)] at hq
      exact m2 j x q hj hq
  · intro x hx
    unfold upd
    rw [if_neg (fun e : x = h => hx (e ▸ List.mem_of_getElem? hk))]
    exact m3 x hx
  · rw [← set_right]
    exact C.rows.set (r := ⟨g, cap, l ++ [c]⟩) (by rw [get_right]; exact hr) (fun q hq _ => hkeep q hq) ((hrow.keep (hkeep _ (List.mem_append_right _ (List.mem_of_getElem? hr)))).pop) (.inl rfl)
end
end Go.Proofs.Qxb6612394a
