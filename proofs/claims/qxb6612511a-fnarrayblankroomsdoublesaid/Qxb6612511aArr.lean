import Derived.Test.Qxb6612511aWrite
namespace Go.Proofs.Qxb6612511a
open Go.RowKit

theorem fK_room (c : List Int) (cap : Nat) : (fC c cap).length < fK c cap := by
  unfold fC fK
  by_cases h : c.length < cap
  · rw [if_pos h, if_pos h]; exact h
  · rw [if_neg h, if_neg h]
    show 0 < nextCap cap
    unfold nextCap; omega
theorem fK_le (c : List Int) (cap : Nat) (h2 : cap ≤ 65536) : fK c cap ≤ 65536 := by
  unfold fK
  by_cases h : c.length < cap
  · rw [if_pos h]; exact h2
  · rw [if_neg h]; unfold nextCap; omega
theorem fK_ge (c : List Int) (cap : Nat) (h2 : cap = 0 ∨ 512 ≤ cap) : 512 ≤ fK c cap := by
  unfold fK
  by_cases h : c.length < cap
  · rw [if_pos h]; omega
  · rw [if_neg h]; unfold nextCap; omega

set_option maxRecDepth 100000 in
set_option maxHeartbeats 1000000 in
theorem write_core (b : Nat) (w : World) (R1 : List (List Int)) (c1 : List Int) (cap1 : Nat) (x : UInt8) (hroom : c1.length < cap1) (hkle : cap1 ≤ 65536)
    (hfor : Calls Try.prog 15 #[.pointer (some ⟨b, 0, none⟩), .int .i64 1] w fun e w' => e = .returned (.tuple #[]) ∧ Inv b w' R1 c1 cap1 ∧ Below b w w') :
    Calls Try.prog 14 #[.pointer (some ⟨b, 0, none⟩), .string ⟨#[x]⟩] w fun e w' => e = .returned (.tuple #[]) ∧ Inv b w' R1 (c1 ++ [(x.toNat : Int)]) cap1 ∧ Below b w w' := by
  have HF : Hid (Calls Try.prog 15 #[.pointer (some ⟨b, 0, none⟩), .int .i64 1] w fun e w' => e = .returned (.tuple #[]) ∧ Inv b w' R1 c1 cap1 ∧ Below b w w') := hfor
  clear hfor
  obtain ⟨i0, hi0, hz0, hz1, hz2⟩ := info_parts info5
  go_enter Try.func14, Try.ntmps14
  go_wp2_with fail
  refine Calls.mono HF.out ?_
  rintro e w1 ⟨rfl, hinv, hbel⟩
  obtain ⟨v, room, gs, rfl, hb, hown, hr, hrm⟩ := hinv
  rcases hrm with ⟨e, _⟩ | ⟨g, rfl, hbg, hcl, hcp, hrm, hne⟩
  · omega
  have hownr := hrm.owns hbg hcl hkle
  have c1' := blk_cell hb
  have hbg' : g ≠ b := by omega
  go_wp2_with (at_builtin; refine Lib.wpList_append_fits_string _ rfl _ _ 24 9 rfl (b + 1) 5 i0 Try.underlying24 Try.underlying9 hi0 hz1 (some ⟨g, 0, none⟩) c1.length cap1 (bytesOf c1) rfl hownr ⟨#[x]⟩ rfl hcp (by show c1.length + 1 ≤ cap1; omega) ?_)
  intro w2 hown2 hgrow
  have hb2 : w2.heap[b]? = some (.cells #[v, .slice (some ⟨g, 0, none⟩) c1.length cap1, .int .i64 0] 26 (0, 0)) := (hgrow.block b (blk_lt hb) (fun e => by simp [Value.ownBlock] at e; omega)).trans hb
  have c2 := blk_cell hb2
  have f2 := blk_frozen hb2
  go_wp2_with fail
  go_end0
  have hroom2 : Room w2 g (c1 ++ [(x.toNat : Int)]) cap1 := by
    refine Room.of_owns (n := c1.length + 1) (B := b + 1) ?_ (by simp)
    have e : bytesOf (c1 ++ [(x.toNat : Int)]) = bytesOf c1 ++ Lib.strCells ⟨#[x]⟩ := by simp [bytesOf, Lib.strCells]
    rw [e]
    exact hown2
  refine ⟨rfl, ⟨v, .slice (some ⟨g, 0, none⟩) (c1.length + 1) cap1, gs, rfl, blk_set hb2 1 _, ?_, ?_, .inr ⟨g, by simp, hbg, by simp; omega, hcp, ?_, hne⟩⟩, ?_⟩
  · refine ownsRow_setCell_below (hown.kept hgrow ?_) (by show b < b + 1; omega) _
    exact .inr (hrm.own_ne hown (by decide)).symm
  · refine rooms_kept hr (fun p hp => ?_)
    rw [heap_set _ _ _ _ (by show p.1 ≠ b; have := (hr p hp).1; omega), hgrow.block p.1 (hr p hp).2.lt (fun e => by simp [Value.ownBlock] at e; exact hne p hp e)]
  · exact hroom2.kept (heap_set _ _ _ _ (by show g ≠ b; omega))
  · exact (hbel.grown hgrow (by have := blk_lt hb; omega) (fun k hk => by simp [Value.ownBlock] at hk; omega)).setCell (p := ⟨b, 1, none⟩) (Nat.le_refl b) _

theorem write_inv (b : Nat) (w : World) (R : List (List Int)) (c : List Int) (cap : Nat) (x : UInt8) (h : Inv b w R c cap) (hcap : cap = 0 ∨ 512 ≤ cap) (hc2 : cap ≤ 65536) (hR : R.length ≤ 1000) :
    Calls Try.prog 14 #[.pointer (some ⟨b, 0, none⟩), .string ⟨#[x]⟩] w fun e w' => e = .returned (.tuple #[]) ∧ Inv b w' (fR R c cap) (fC c cap ++ [(x.toNat : Int)]) (fK c cap) ∧ Below b w w' :=
  write_core b w _ _ _ x (fK_room c cap) (fK_le c cap hc2) (roomFor_inv b w R c cap h hcap hc2 hR)
end Go.Proofs.Qxb6612511a
