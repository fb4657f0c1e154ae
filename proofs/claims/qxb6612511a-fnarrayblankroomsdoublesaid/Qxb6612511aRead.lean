import Derived.Test.Qxb6612511aText
namespace Go.Proofs.Qxb6612511a
open Go.RowKit

/-- The text of the first j pieces. -/
def upto (gs : List (Nat × List Int)) (j : Nat) : List Int := ((gs.take j).map Prod.snd).flatten
theorem upto_succ (gs : List (Nat × List Int)) (j : Nat) (p : Nat × List Int) (h : gs[j]? = some p) : upto gs (j + 1) = upto gs j ++ p.2 := by
  unfold upto
  have hj : j < gs.length := (List.getElem?_eq_some_iff.1 h).1
  have e : gs[j] = p := (List.getElem?_eq_some_iff.1 h).2
  rw [List.take_succ_eq_append_getElem hj, e]
  simp
theorem upto_all (gs : List (Nat × List Int)) : upto gs gs.length = (gs.map Prod.snd).flatten := by unfold upto; rw [List.take_length]
theorem upto_le (gs : List (Nat × List Int)) (j : Nat) : (upto gs j).length ≤ (gs.map Prod.snd).flatten.length := by
  unfold upto
  induction gs generalizing j with
  | nil => simp
  | cons q r ih =>
    cases j with
    | zero => simp
    | succ j =>
      have := ih j
      simp at this ⊢
      omega

theorem blk_keep (w : World) (o : Obj) {k : Nat} (h : k < w.heap.size) : (w.alloc o).heap[k]? = w.heap[k]? := Below.heap_alloc w o k h

set_option maxRecDepth 100000 in
set_option maxHeartbeats 4000000 in
theorem text_any (b : Nat) (w : World) (ao : Option Addr) (cp : Nat) (gs : List (Nat × List Int)) (g : Nat) (c : List Int) (cap : Nat) (V : View b w ao cp gs g c cap) :
    Calls Try.prog 5 #[.pointer (some ⟨b, 0, none⟩)] w fun e w' => ∃ g' cap', e = .returned (.tuple #[.slice (some ⟨g', 0, none⟩) (upto gs gs.length ++ c).length cap', .bool true]) ∧
      w'.ownsRow w.heap.size 5 1 (.slice (some ⟨g', 0, none⟩) (upto gs gs.length ++ c).length cap') (upto gs gs.length ++ c).length (bytesOf (upto gs gs.length ++ c)) ∧ Below w.heap.size w w' := by
  obtain ⟨i0, hi0, hz0, hz1, hz2⟩ := info_parts info5
  have hsm := V.small
  have hfew := V.few
  have hblk := V.blk
  have hblt := blk_lt hblk
  go_enter Try.func5, Try.ntmps5
  go_wp2_with fail
  refine (getList b _ _ _ w hblk).mono ?_
  rintro e w1 ⟨rfl, rfl⟩
  go_wp2_with fail
  go_loopw [5, 6, 7] (fun out ok i wr => ∃ j : Nat, j ≤ gs.length ∧ i = .int .i64 j ∧ ok = .bool true ∧ wr.ownsRow w1.heap.size 5 1 out (upto gs j).length (bytesOf (upto gs j)) ∧ w1.heap.size ≤ wr.heap.size ∧ Below w1.heap.size w1 wr) (fun _ _ i _ => gs.length - (intOf i).toNat)
  case atStart =>
    refine ⟨0, Nat.zero_le _, rfl, rfl, ⟨by simp [upto, bytesOf], .inr ⟨w1.heap.size, 0, #[], rfl, Nat.le_refl _, heap_alloc_new w1 _, by simp [upto], by unfold maxLen; omega, rfl, by simp [upto, bytesOf]⟩⟩, by simp, (Below.refl _ _).alloc (Nat.le_refl _) _⟩
  case round =>
    obtain ⟨j, hj, rfl, rfl, hown, hsz, hbr⟩ := hrel
    by_cases hlt : j < gs.length
    · obtain ⟨p, hp⟩ : ∃ p, gs[j]? = some p := ⟨gs[j], List.getElem?_eq_getElem hlt⟩
      obtain ⟨g1, hao, hc1, hc2, hg1⟩ := V.list j p hp
      obtain ⟨hrm, hpl⟩ := V.rooms j p hp
      have hup := upto_succ gs j p hp
      have hu1 := upto_le gs (j + 1)
      rw [hup, List.length_append] at hu1
      have hd1 : wr.cell? ⟨g1, j * 2, none⟩ = some (.slice (some ⟨p.1, 0, none⟩) p.2.length p.2.length) := (hbr.cell (p := ⟨g1, j * 2, none⟩) hg1).trans hc1
      have hd2 : wr.cell? ⟨g1, j * 2 + 1, none⟩ = some (.int .i64 0) := (hbr.cell (p := ⟨g1, j * 2 + 1, none⟩) hg1).trans hc2
      have hg2 : g1 < wr.heap.size := by omega
      have hrm2 : Room wr p.1 p.2 p.2.length := hrm.kept (hbr.block _ hrm.lt)
      have hj0 : (0 : Int) ≤ (j : Int) := by omega
      have hj1 : (j : Int) < (gs.length : Int) := by omega
      have hne : ((p.2.length : Int) == 0) = false := beq_eq_false_iff_ne.2 (by omega)
      have HU : Hid (upto gs (j + 1) = upto gs j ++ p.2) := hup
      clear hup hc1 hc2
      subst hao
      obtain ⟨q, l⟩ := p
      simp only at hd1 hrm2 hpl hne HU hu1
      clear hp hrm
      go_wp2_with fail
      refine (getBytes _ _ _ _ _).mono ?_
      rintro e w2 ⟨rfl, rfl⟩
      go_wp2_with fail
      refine (getDecoded _ _ _ _ _).mono ?_
      rintro e w2 ⟨rfl, rfl⟩
      go_wp2_with (at_builtin; refine wpList_append_own _ rfl _ _ 24 rfl w1.heap.size 5 i0 (.int .u8 0) 1 1 Try.underlying24 hi0 hz0 hz1 hz2 rfl (by decide) _ _ _ rfl ((hown.alloc _).alloc _) ⟨q, 0, none⟩ l.length l.length (bytesOf l) rfl (by rw [bytesOf_length]; omega) ?c1 (bytesOf_one l) ?c3 ?c4 ?c5 ?_)
      case c1 => exact Room.news ((hrm2.kept (blk_keep _ _ hrm2.lt)).kept (blk_keep _ _ (by simp; have := hrm2.lt; omega)))
      case c3 => unfold maxLen; omega
      case c4 => omega
      case c5 => simp; omega
      intro v' w3 hown3 hgrow _
      go_wp2_with fail
      go_roundw
      case rel =>
        refine ⟨j + 1, by omega, by go_num, rfl, ?_, ?_, ?_⟩
        · rw [HU.out, bytesOf_app, List.length_append]
          exact hown3
        · have := hgrow.size
          simp at this
          omega
        · exact ((hbr.alloc hsz _).alloc (by simp; omega) _).grown hgrow (by simp; omega) (fun k hk => (hown.lt k hk).1)
      case measure => simp [intOf]; omega
    · have hje : j = gs.length := by omega
      subst hje
      have hblk2 : wr.heap[b]? = some (.cells #[.slice ao gs.length cp, .slice (some ⟨g, 0, none⟩) c.length cap, .int .i64 0] 26 (0, 0)) := (hbr.block b hblt).trans hblk
      obtain ⟨hrm, hcl, hc0⟩ := V.hand
      have hrm2 : Room wr g c cap := hrm.kept (hbr.block _ hrm.lt)
      go_wp2_with fail
      refine (getRoom b _ _ _ _ hblk2).mono ?_
      rintro e w2 ⟨rfl, rfl⟩
      go_wp2_with fail
      refine (getFrom b _ _ _ _ hblk2).mono ?_
      rintro e w2 ⟨rfl, rfl⟩
      have hcl1 : (0 : Int) ≤ (c.length : Int) := by omega
      go_wp2_with (at_builtin; refine wpList_append_own _ rfl _ _ 24 rfl w1.heap.size 5 i0 (.int .u8 0) 1 1 Try.underlying24 hi0 hz0 hz1 hz2 rfl (by decide) _ _ _ rfl hown ⟨g, 0, none⟩ c.length cap (bytesOf c) rfl (by rw [bytesOf_length]; omega) hrm2.news (bytesOf_one c) ?d3 ?d4 hsz ?_)
      case d3 => have := upto_le gs gs.length; unfold maxLen; omega
      case d4 => have := upto_le gs gs.length; omega
      intro v' w3 hown3 hgrow _
      obtain ⟨g', cap', hv, _, _⟩ := hown3.form (by omega)
      subst hv
      go_wp2_with fail
      go_ret2
      refine ⟨g', cap', by rw [List.length_append]; rfl, ?_, hbr.grown hgrow hsz (fun k hk => (hown.lt k hk).1)⟩
      rw [bytesOf_app, List.length_append]
      exact hown3
end Go.Proofs.Qxb6612511a
