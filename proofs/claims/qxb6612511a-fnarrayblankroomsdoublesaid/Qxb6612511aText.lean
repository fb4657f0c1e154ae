import Derived.Test.Qxb6612511aArray
namespace Go.Proofs.Qxb6612511a
open Go.RowKit

set_option maxRecDepth 100000 in
theorem getList (b : Nat) (v r x : Value) (w : World) (hb : w.heap[b]? = some (.cells #[v, r, x] 26 (0, 0))) :
    Calls Try.prog 7 #[.pointer (some ⟨b, 0, none⟩)] w fun e w' => e = .returned v ∧ w' = w := by
  have c := blk_cell hb
  go_enter Try.func7, Try.ntmps7
  go_wp2
  go_ret
  exact ⟨rfl, rfl⟩
set_option maxRecDepth 100000 in
theorem getRoom (b : Nat) (v r x : Value) (w : World) (hb : w.heap[b]? = some (.cells #[v, r, x] 26 (0, 0))) :
    Calls Try.prog 12 #[.pointer (some ⟨b, 0, none⟩)] w fun e w' => e = .returned r ∧ w' = w := by
  have c := blk_cell hb
  go_enter Try.func12, Try.ntmps12
  go_wp2
  go_ret
  exact ⟨rfl, rfl⟩
set_option maxRecDepth 100000 in
theorem getFrom (b : Nat) (v r x : Value) (w : World) (hb : w.heap[b]? = some (.cells #[v, r, x] 26 (0, 0))) :
    Calls Try.prog 13 #[.pointer (some ⟨b, 0, none⟩)] w fun e w' => e = .returned x ∧ w' = w := by
  have c := blk_cell hb
  go_enter Try.func13, Try.ntmps13
  go_wp2
  go_ret
  exact ⟨rfl, rfl⟩
set_option maxRecDepth 100000 in
theorem getBytes (a : Option Addr) (n c : Nat) (d : Int) (w : World) :
    Calls Try.prog 8 #[.agg #[.slice a n c, .int .i64 d]] w fun e w' => e = .returned (.slice a n c) ∧ w' = w.alloc (.cells #[.slice a n c, .int .i64 d] 34) := by
  go_enter Try.func8, Try.ntmps8
  go_wp2
  go_ret
  exact ⟨rfl, rfl⟩
set_option maxRecDepth 100000 in
theorem getDecoded (a : Option Addr) (n c : Nat) (d : Int) (w : World) :
    Calls Try.prog 11 #[.agg #[.slice a n c, .int .i64 d]] w fun e w' => e = .returned (.int .i64 d) ∧ w' = w.alloc (.cells #[.slice a n c, .int .i64 d] 34) := by
  go_enter Try.func11, Try.ntmps11
  go_wp2
  go_ret
  exact ⟨rfl, rfl⟩

/-- What the reader is told of a Pieces: its list of m pieces, each the whole of a room; the room in hand. -/
structure View (b : Nat) (w : World) (ao : Option Addr) (cp : Nat) (gs : List (Nat × List Int)) (g : Nat) (c : List Int) (cap : Nat) : Prop where
  blk : w.heap[b]? = some (.cells #[.slice ao gs.length cp, .slice (some ⟨g, 0, none⟩) c.length cap, .int .i64 0] 26 (0, 0))
  list : ∀ (k : Nat) (p : Nat × List Int), gs[k]? = some p → ∃ g1, ao = some ⟨g1, 0, none⟩ ∧ w.cell? ⟨g1, k * 2, none⟩ = some (.slice (some ⟨p.1, 0, none⟩) p.2.length p.2.length) ∧ w.cell? ⟨g1, k * 2 + 1, none⟩ = some (.int .i64 0) ∧ g1 < w.heap.size
  rooms : ∀ (k : Nat) (p : Nat × List Int), gs[k]? = some p → Room w p.1 p.2 p.2.length ∧ 0 < p.2.length
  hand : Room w g c cap ∧ c.length ≤ cap ∧ 0 < c.length
  small : (gs.map Prod.snd).flatten.length + c.length ≤ 100000
  few : gs.length ≤ 1000

theorem flat_cells (gs : List (Nat × List Int)) (k : Nat) (p : Nat × List Int) (h : gs[k]? = some p) : (gs.flatMap pc)[k * 2]? = some (.slice (some ⟨p.1, 0, none⟩) p.2.length p.2.length) ∧ (gs.flatMap pc)[k * 2 + 1]? = some (.int .i64 0) := by
  induction gs generalizing k with
  | nil => simp at h
  | cons q r ih =>
    cases k with
    | zero =>
      simp at h
      subst h
      exact ⟨rfl, rfl⟩
    | succ k =>
      have := ih k (by simpa using h)
      have e1 : (k + 1) * 2 = k * 2 + 2 := by omega
      rw [e1]
      simpa [List.flatMap_cons, pc] using this

theorem Holds.view {b : Nat} {w : World} {T : List Int} (h : Holds b w T) (h0 : T ≠ []) (hT : T.length ≤ 100000) :
    ∃ (ao : Option Addr) (cp : Nat) (gs : List (Nat × List Int)) (g : Nat) (c : List Int) (cap : Nat), View b w ao cp gs g c cap ∧ (gs.map Prod.snd).flatten ++ c = T ∧ (∀ (k : Nat) (p : Nat × List Int), gs[k]? = some p → p.2.length = sz k) ∧ (gs.map Prod.snd).flatten.length = tot gs.length ∧ c.length ≤ sz gs.length := by
  obtain ⟨R, c, cap, ⟨v, room, gs, rfl, hb, hown, hr, hrm⟩, hg⟩ := h
  have hfew := hg.few hT
  rcases hg.hand with ⟨e, _⟩ | ⟨e1, e2, e3⟩
  · exact absurd e h0
  rcases hrm with ⟨_, e, _⟩ | ⟨g, rfl, hbg, hcl, hcp, hrm, hne⟩
  · exact absurd e e1
  have hc0 : 0 < c.length := by
    cases c with
    | nil => exact absurd rfl e1
    | cons _ _ => simp
  have hsz : ∀ (k : Nat) (p : Nat × List Int), gs[k]? = some p → p.2.length = sz k := fun k p hp => hg.rooms k p.2 (by simp [hp])
  obtain ⟨ao, cp, rfl⟩ : ∃ ao cp, v = .slice ao gs.length cp := by
    rcases hown.2 with ⟨hv, hn⟩ | ⟨g1, cp, _, hv, _⟩
    · exact ⟨none, 0, by rw [hv, hn]⟩
    · exact ⟨_, _, hv⟩
  refine ⟨ao, cp, gs, g, c, cap, ⟨hb, ?_, ?_, ⟨hrm, hcl, hc0⟩, ?_, by simpa using hfew⟩, hg.text, hsz, by simpa using hg.size, by simpa [e2] using e3⟩
  · intro k p hp
    have hk : k < gs.length := (List.getElem?_eq_some_iff.1 hp).1
    rcases hown.2 with ⟨_, hn⟩ | ⟨g1, cp', cur, hv, _, hg1, hnc, _, hcs, htake⟩
    · omega
    · injection hv with h1 _ _
      have hf := flat_cells gs k p hp
      rw [← htake] at hf
      have ht : ∀ i, i < gs.length * 2 → (cur.toList.take (gs.length * 2))[i]? = cur[i]? := fun i hi => by
        rw [List.getElem?_take_of_lt hi]
        simp
      rw [ht _ (by omega), ht _ (by omega)] at hf
      exact ⟨g1, h1, (blk_cell hg1 _).trans hf.1, (blk_cell hg1 _).trans hf.2, blk_lt hg1⟩
  · intro k p hp
    exact ⟨(hr p (List.mem_of_getElem? hp)).2, by rw [hsz k p hp]; have := sz_ge k; omega⟩
  · have := congrArg List.length hg.text
    simp at this ⊢
    omega

/-- The cells of a room, as append reads them. -/
theorem Room.news {w : World} {g : Nat} {l : List Int} {cap : Nat} (h : Room w g l cap) : ∀ j u, (bytesOf l)[j]? = some u → w.cell? ((⟨g, 0, none⟩ : Addr).add j) = some u := by
  intro j u hu
  obtain ⟨cur, h1, h2, h3⟩ := h
  have hadd : (⟨g, 0, none⟩ : Addr).add j = ⟨g, j, none⟩ := by unfold Addr.add; split <;> simp_all
  rw [hadd, blk_cell h1]
  rw [← h3] at hu
  have hj : j < l.length := by
    have := (List.getElem?_eq_some_iff.1 hu).1
    simp at this
    omega
  rw [List.getElem?_take_of_lt hj] at hu
  simpa using hu
theorem bytesOf_one (l : List Int) : ∀ u ∈ bytesOf l, u.oneCell' = true := by
  intro u hu
  simp only [bytesOf, List.mem_map] at hu
  obtain ⟨x, _, rfl⟩ := hu
  rfl
theorem bytesOf_app (a b : List Int) : bytesOf (a ++ b) = bytesOf a ++ bytesOf b := by simp [bytesOf]
end Go.Proofs.Qxb6612511a
