import Derived.Test.Qxb6612511aInv
namespace Go.Proofs.Qxb6612511a
open Go.RowKit

/-! ### One byte more: what roomFor(1) makes of the state, and Write -/
def fR (R : List (List Int)) (c : List Int) (cap : Nat) : List (List Int) := if c.length < cap then R else if c = [] then R else R ++ [c]
def fC (c : List Int) (cap : Nat) : List Int := if c.length < cap then c else []
def fK (c : List Int) (cap : Nat) : Nat := if c.length < cap then cap else nextCap cap

theorem size_set (w : World) (a : Addr) (v : Value) : (w.setCell a v).heap.size = w.heap.size := by simp [World.setCell]
theorem heap_set (w : World) (a : Addr) (v : Value) (k : Nat) (h : k ≠ a.block) : (w.setCell a v).heap[k]? = w.heap[k]? := Below.heap_setCell w a v k h

/-- The state behind the new room, from a world w1 in which the list is as it shall be. -/
theorem inv_new {b : Nat} {w0 w1 : World} {v x1 : Value} {ao : Option Addr} {cap nc : Nat} {gs : List (Nat × List Int)} {M : Array Value}
    (hb : w1.heap[b]? = some (.cells #[v, .slice ao cap cap, x1] 26 (0, 0))) (hown : w1.ownsRow (b + 1) 34 2 v gs.length (gs.flatMap pc))
    (hr : ∀ p ∈ gs, b < p.1 ∧ Room w1 p.1 p.2 p.2.length) (hM : M.size = nc) (hnc : 0 < nc) (hbel : Below b w0 w1) :
    Inv b (((w1.setCell ⟨b, 1, none⟩ (.slice (some ⟨w1.heap.size, 0, none⟩) 0 nc)).setCell ⟨b, 2, none⟩ (.int .i64 0)).alloc (.cells M 5)) (gs.map Prod.snd) [] nc ∧
      Below b w0 (((w1.setCell ⟨b, 1, none⟩ (.slice (some ⟨w1.heap.size, 0, none⟩) 0 nc)).setCell ⟨b, 2, none⟩ (.int .i64 0)).alloc (.cells M 5)) := by
  have hlt := blk_lt hb
  refine ⟨⟨v, .slice (some ⟨w1.heap.size, 0, none⟩) 0 nc, gs, rfl, ?_, ?_, ?_, .inr ⟨w1.heap.size, rfl, hlt, Nat.zero_le _, hnc, ?_, ?_⟩⟩, ?_⟩
  · exact blk_alloc (blk_set (blk_set hb 1 _) 2 _) _
  · exact (ownsRow_setCell_below (ownsRow_setCell_below hown (by show b < b + 1; omega) _) (by show b < b + 1; omega) _).alloc _
  · refine rooms_kept hr (fun p hp => ?_)
    have h1 := (hr p hp).2.lt
    have h2 := (hr p hp).1
    rw [Below.heap_alloc _ _ _ (by rw [size_set, size_set]; exact h1), heap_set _ _ _ _ (by show p.1 ≠ b; omega), heap_set _ _ _ _ (by show p.1 ≠ b; omega)]
  · have := heap_alloc_new ((w1.setCell ⟨b, 1, none⟩ (.slice (some ⟨w1.heap.size, 0, none⟩) 0 nc)).setCell ⟨b, 2, none⟩ (.int .i64 0)) (.cells M 5)
    rw [size_set, size_set] at this
    exact ⟨M, this, hM, by simp [bytesOf]⟩
  · intro p hp
    have h1 := (hr p hp).2.lt
    omega
  · exact ((hbel.setCell (p := ⟨b, 1, none⟩) (Nat.le_refl b) _).setCell (p := ⟨b, 2, none⟩) (Nat.le_refl b) _).alloc (by rw [size_set, size_set]; omega) _

theorem Inv.drewN {b : Nat} {w : World} {R : List (List Int)} {c : List Int} {cap : Nat} (h : Inv b w R c cap) (k : Nat) : Inv b (w.drewN k) R c cap := h

theorem roomFor_inv (b : Nat) (w : World) (R : List (List Int)) (c : List Int) (cap : Nat) (h : Inv b w R c cap) (hcap : cap = 0 ∨ 512 ≤ cap) (hc2 : cap ≤ 65536) (hR : R.length ≤ 1000) :
    Calls Try.prog 15 #[.pointer (some ⟨b, 0, none⟩), .int .i64 1] w fun e w' => e = .returned (.tuple #[]) ∧ Inv b w' (fR R c cap) (fC c cap) (fK c cap) ∧ Below b w w' := by
  have h0 := h
  obtain ⟨v, room, gs, rfl, hb, hown, hr, hroom⟩ := h
  by_cases hlt : c.length < cap
  · rcases hroom with ⟨e, _⟩ | ⟨g, rfl, hbg, hcl, hcp, hrm, hne⟩
    · omega
    refine (roomFor_room b g c.length cap v w hlt hc2 hb).mono ?_
    rintro e w' ⟨rfl, k, rfl⟩
    unfold fR fC fK
    rw [if_pos hlt, if_pos hlt, if_pos hlt]
    exact ⟨rfl, h0.drewN k, below_drewN (Below.refl b w) k⟩
  unfold fR fC fK
  rw [if_neg hlt, if_neg hlt, if_neg hlt]
  have hnc : 0 < nextCap cap := by unfold nextCap; omega
  rcases hroom with ⟨rfl, rfl, rfl⟩ | ⟨g, rfl, hbg, hcl, hcp, hrm, hne⟩
  · rw [if_pos rfl]
    refine (roomFor_full b 0 v none w (by omega) hc2 hb (fun w1 => ∃ k, w1 = w.drewN k) ?_ ?_).mono ?_
    · rintro w0 ⟨k, rfl⟩
      refine (flush_none b 0 v none (w.drewN k) hb).mono ?_
      rintro e w1 ⟨rfl, n, rfl⟩
      exact ⟨rfl, k + n, by rw [World.drewN_drewN]⟩
    · rintro w1 ⟨k, rfl⟩
      exact ⟨v, .int .i64 0, hb⟩
    rintro e w' ⟨rfl, w1, M, ⟨k, rfl⟩, hM, rfl⟩
    exact ⟨rfl, inv_new (w1 := w.drewN k) hb hown hr hM hnc (below_drewN (Below.refl b w) k)⟩
  · have hce : c.length = cap := by omega
    have hcn : c ≠ [] := by
      rintro rfl
      simp at hce
      omega
    rw [if_neg hcn]
    subst hce
    have hlen : gs.length ≤ 1000 := by simpa using hR
    refine (roomFor_full b c.length v (some ⟨g, 0, none⟩) w (by omega) hc2 hb
      (fun w1 => ∃ (k g' cap' : Nat) (wx : World), wx.ownsRow (b + 1) 34 2 (.slice (some ⟨g', 0, none⟩) (gs.length + 1) cap') (gs.length + 1) (gs.flatMap pc ++ [.slice (some ⟨g, 0, none⟩) c.length c.length, .int .i64 0]) ∧ (w.drewN k).grownBy wx v.ownBlock ∧
        wx.heap[b]? = some (.cells #[v, .slice (some ⟨g, 0, none⟩) c.length c.length, .int .i64 0] 26 (0, 0)) ∧
        w1 = (wx.setCell ⟨b, 0, none⟩ (.slice (some ⟨g', 0, none⟩) (gs.length + 1) cap')).setCell ⟨b, 2, none⟩ (.int .i64 c.length)) ?_ ?_).mono ?_
    · rintro w0 ⟨k, rfl⟩
      refine (flush_some b g c.length c.length v gs.length (gs.flatMap pc) (w.drewN k) hcp (Nat.le_refl _) (by omega) hb hown).mono ?_
      rintro e w1 ⟨rfl, g', cap', wx, k1, k2, _, k4, rfl⟩
      exact ⟨rfl, k, g', cap', wx, k1, k2, k4, rfl⟩
    · rintro w1 ⟨k, g', cap', wx, k1, k2, k4, rfl⟩
      exact ⟨_, _, blk_set (blk_set k4 0 _) 2 _⟩
    rintro e w' ⟨rfl, w1, M, ⟨k, g', cap', wx, k1, k2, k4, rfl⟩, hM, rfl⟩
    have hkeep : ∀ (q : Nat) (l : List Int) (cp : Nat), b < q → Room w q l cp → ((wx.setCell ⟨b, 0, none⟩ (.slice (some ⟨g', 0, none⟩) (gs.length + 1) cap')).setCell ⟨b, 2, none⟩ (.int .i64 c.length)).heap[q]? = w.heap[q]? := by
      intro q l cp hq hrq
      rw [heap_set _ _ _ _ (by show q ≠ b; omega), heap_set _ _ _ _ (by show q ≠ b; omega), k2.block q hrq.lt (hrq.own_ne hown (by decide))]
      rfl
    have hgs : (gs ++ [(g, c)]).map Prod.snd = gs.map Prod.snd ++ [c] := by simp
    rw [← hgs]
    refine ⟨rfl, inv_new (gs := gs ++ [(g, c)]) (blk_set (blk_set k4 0 _) 2 _) ?_ ?_ hM hnc ?_⟩
    · have := ownsRow_setCell_below (ownsRow_setCell_below k1 (a := ⟨b, 0, none⟩) (by show b < b + 1; omega) (.slice (some ⟨g', 0, none⟩) (gs.length + 1) cap')) (a := ⟨b, 2, none⟩) (by show b < b + 1; omega) (.int .i64 c.length)
      simpa [pc] using this
    · intro p hp
      rcases List.mem_append.1 hp with hp | hp
      · exact ⟨(hr p hp).1, (hr p hp).2.kept (hkeep _ _ _ (hr p hp).1 (hr p hp).2)⟩
      · have e : p = (g, c) := by simpa using hp
        subst e
        exact ⟨hbg, hrm.kept (hkeep _ _ _ hbg hrm)⟩
    · refine (((below_drewN (Below.refl b w) k).grown k2 (Nat.le_of_lt (blk_lt hb)) ?_).setCell (p := ⟨b, 0, none⟩) (Nat.le_refl b) _).setCell (p := ⟨b, 2, none⟩) (Nat.le_refl b) _
      intro q hq
      rcases hown.2 with ⟨hv, _⟩ | ⟨g1, _, _, hv, hg1, _⟩
      · rw [hv] at hq; cases hq
      · rw [hv] at hq
        simp only [Value.ownBlock, Option.some.injEq] at hq
        omega
end Go.Proofs.Qxb6612511a
