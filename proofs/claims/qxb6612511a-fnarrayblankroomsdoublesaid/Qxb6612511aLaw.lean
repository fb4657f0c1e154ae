import Derived.Test.Qxb6612511aEq
namespace Go.Proofs.Qxb6612511a
open Go.RowKit

theorem sz_succ (k : Nat) : sz (k + 1) = min (2 * sz k) 65536 := by
  unfold sz
  rw [Nat.pow_succ]
  generalize 2 ^ k = q
  omega

set_option maxRecDepth 100000 in
theorem law_early (n : Int) (w : World) (hn : 65536 < n) :
    Calls Try.prog 3 #[.int .i64 n] w fun e w' => e = .returned (.bool true) ∧ Below w.heap.size w w' := by
  go_enter Try.func3, Try.ntmps3
  go_wp2_with fail
  go_ret
  exact ⟨rfl, Below.refl _ _⟩

set_option maxRecDepth 100000 in
set_option maxHeartbeats 4000000 in
theorem law_big (n : Int) (w : World) (hn : n ≤ 65536) (hlo : -9223372036854775808 ≤ n) (hn1 : 1 < n) (m : Nat) (e : n - 1 = m) :
    Calls Try.prog 3 #[.int .i64 n] w fun e w' => e = .returned (.bool true) ∧ Below w.heap.size w w' := by
  have hm : (n - 1).toNat = m := by omega
  obtain ⟨M, hM, hmk⟩ := make_bytes (m + 2) (by omega)
  have hmk2 : ∀ w : World, (Instr.makeSlice 24 (.int .i64 ((m : Int) + 2)) (.int .i64 ((m : Int) + 2))).run Try.prog w = .ok (.slice (some ⟨w.heap.size, 0, none⟩) (m + 2) (m + 2)) (w.alloc (.cells M 5)) := hmk
  clear hmk
  have hlen := arrText_length n
  rw [hm] at hlen
  have hget := arrText_get n
  rw [hm] at hget
  have h00 := holds_start w
  have hb00 : Below w.heap.size w (w.alloc (.cells #[.slice none 0 0, .slice none 0 0, .int .i64 0] 26)) := (Below.refl _ _).alloc (Nat.le_refl _) _
  have HG : Hid (∀ (i : Nat), i < m + 2 → (arrText n).getD i 0 = if i = 0 then 91 else if i = m + 1 then 93 else 44) := hget
  have HL : Hid ((arrText n).length = m + 2) := hlen
  clear hget hlen hm
  go_enter Try.func3, Try.ntmps3
  go_wp2_with fail
  refine (blank_any w.heap.size n _ hn h00).mono ?_
  rintro e w1 ⟨rfl, h1, hb1⟩
  have hbel1 := hb00.trans hb1
  clear hb00 hb1 h00
  obtain ⟨ao, cp, gs, g, c, cap, V, htext, hsz, htot, hcsz⟩ := h1.view (by unfold arrText; simp) (by rw [HL.out]; omega)
  have HT : Hid ((gs.map Prod.snd).flatten ++ c = arrText n) := htext
  have HS : Hid (∀ (k : Nat) (p : Nat × List Int), gs[k]? = some p → p.2.length = sz k) := hsz
  have HO : Hid ((gs.map Prod.snd).flatten.length = tot gs.length) := htot
  have HC : Hid (c.length ≤ sz gs.length) := hcsz
  clear h1 htext hsz htot hcsz
  go_wp2_with fail
  go_loopw [7] (fun i wr => ∃ (k : Nat) (A : Array Value), 1 ≤ k ∧ k ≤ m + 1 ∧ i = .int .i64 k ∧ wr.heap[w1.heap.size]? = some (.cells A 5 (0, 0)) ∧ A.size = m + 2 ∧ (∀ i, 1 ≤ i → i < k → A[i]? = some (.int .u8 44)) ∧ Below w1.heap.size w1 wr) (fun i _ => m + 1 - (intOf i).toNat)
  case atStart => exact ⟨1, M, Nat.le_refl _, by omega, rfl, heap_alloc_new w1 _, hM, fun i h1 h2 => by omega, (Below.refl _ _).alloc (Nat.le_refl _) _⟩
  case round =>
    obtain ⟨k, A, hk1, hk2, rfl, hA, hAs, hAc, hbr⟩ := hrel
    by_cases hlt : k < m + 1
    · have hk3 : (k : Int) < ((m : Int) + 1) := by omega
      have hk4 : (0 : Int) ≤ (k : Int) := by omega
      have hk5 : (k : Int) < ((m : Int) + 2) := by omega
      obtain ⟨old, hold⟩ : ∃ old, wr.cell? ⟨w1.heap.size, k, none⟩ = some old := ⟨A[k]'(by omega), (blk_cell hA k).trans (Array.getElem?_eq_getElem (by omega))⟩
      have hfr := blk_frozen hA k
      go_wp2_with fail
      go_roundw
      case rel =>
        refine ⟨k + 1, _, by omega, by omega, by go_num, blk_set hA k _, by simpa using hAs, ?_, hbr.setCell (p := ⟨w1.heap.size, k, none⟩) (Nat.le_refl _) _⟩
        intro i h1 h2
        by_cases hik : i = k
        · subst hik
          rw [Array.getElem?_setIfInBounds_self_of_lt (by omega)]
        · rw [Array.getElem?_setIfInBounds_ne (by omega)]
          exact hAc i h1 (by omega)
      case measure => simp [intOf]; omega
    · have hke : k = m + 1 := by omega
      subst hke
      obtain ⟨o0, hold0⟩ : ∃ old, wr.cell? ⟨w1.heap.size, 0, none⟩ = some old := ⟨A[0]'(by omega), (blk_cell hA 0).trans (Array.getElem?_eq_getElem (by omega))⟩
      obtain ⟨o1, hold1⟩ : ∃ old, wr.cell? ⟨w1.heap.size, m + 1, none⟩ = some old := ⟨A[m + 1]'(by omega), (blk_cell hA _).trans (Array.getElem?_eq_getElem (by omega))⟩
      have hfr0 := blk_frozen hA 0
      have hfr1 := blk_frozen hA (m + 1)
      go_wp2_with fail
      have hA2 := blk_set (blk_set hA 0 (.int .u8 91)) (m + 1) (.int .u8 93)
      have hbr2 : Below w1.heap.size w1 ((wr.setCell ⟨w1.heap.size, 0, none⟩ (.int .u8 91)).setCell ⟨w1.heap.size, m + 1, none⟩ (.int .u8 93)) := (hbr.setCell (p := ⟨w1.heap.size, 0, none⟩) (Nat.le_refl _) _).setCell (p := ⟨w1.heap.size, m + 1, none⟩) (Nat.le_refl _) _
      have hwant : ∀ i, i < m + 2 → ((wr.setCell ⟨w1.heap.size, 0, none⟩ (.int .u8 91)).setCell ⟨w1.heap.size, m + 1, none⟩ (.int .u8 93)).cell? ⟨w1.heap.size, i, none⟩ = some (.int .u8 ((arrText n).getD i 0)) := by
        intro i hi
        rw [blk_cell hA2, HG.out i hi]
        by_cases h1 : i = m + 1
        · subst h1
          rw [Array.getElem?_setIfInBounds_self_of_lt (by simp; omega), if_neg (by omega), if_pos rfl]
        · rw [Array.getElem?_setIfInBounds_ne (by omega)]
          by_cases h0 : i = 0
          · subst h0
            rw [Array.getElem?_setIfInBounds_self_of_lt (by omega), if_pos rfl]
          · rw [Array.getElem?_setIfInBounds_ne (by omega), if_neg h0, if_neg h1]
            exact hAc i (by omega) (by omega)
      clear hA hAc hold0 hold1 hfr0 hfr1
      generalize (wr.setCell ⟨w1.heap.size, 0, none⟩ (.int .u8 91)).setCell ⟨w1.heap.size, m + 1, none⟩ (.int .u8 93) = W2 at *
      have hgw := blk_lt hA2
      have V2 := V.below hbr2
      refine (text_any w.heap.size W2 ao cp gs g c cap V2).mono ?_
      rintro e w3 ⟨g', cap', rfl, hown3, hb3⟩
      have hTT : upto gs gs.length ++ c = arrText n := by rw [upto_all]; exact HT.out
      rw [hTT] at hown3 ⊢
      have HL2 := HL.out
      rw [HL2] at hown3 ⊢
      clear hTT HL2
      have hgot : ∀ i, i < m + 2 → w3.cell? ⟨g', i, none⟩ = some (.int .u8 ((arrText n).getD i 0)) := by
        intro i hi
        have hr := Room.of_owns hown3 HL.out.symm
        have hn := hr.news i (.int .u8 ((arrText n).getD i 0)) (by
          simp only [bytesOf, List.getElem?_map, List.getD_eq_getElem?_getD]
          have : i < (arrText n).length := by rw [HL.out]; exact hi
          rw [List.getElem?_eq_getElem this]
          rfl)
        have hadd : (⟨g', 0, none⟩ : Addr).add i = ⟨g', i, none⟩ := by unfold Addr.add; split <;> simp_all
        rw [hadd] at hn
        exact hn
      have hwant3 : ∀ i, i < m + 2 → w3.cell? ⟨w1.heap.size, i, none⟩ = some (.int .u8 ((arrText n).getD i 0)) := fun i hi => (hb3.cell (p := ⟨w1.heap.size, i, none⟩) hgw).trans (hwant i hi)
      have V3 := V2.below hb3
      clear hwant V2 hown3 hA2 hgw
      have hbel3 := hbel1.trans ((hbr2.mono hbel1.size).trans (hb3.mono (Nat.le_trans hbel1.size hbr2.size)))
      clear hbr2 hb3 hbr V
      go_wp2_with fail
      refine (equal_any g' w1.heap.size (m + 2) _ _ (fun i => (arrText n).getD i 0) w3 (by omega) hgot hwant3).mono ?_
      rintro e w4 ⟨rfl, d, rfl⟩
      clear hgot hwant3
      have V4 : View w.heap.size (w3.drewN d) ao cp gs g c cap := V3.below ⟨rfl, rfl, rfl, Nat.le_refl _, fun _ _ => rfl⟩
      have hbel4 := below_drewN hbel3 d
      clear V3 hbel3
      generalize w3.drewN d = w5 at *
      go_wp2_with fail
      refine (getList _ _ _ _ w5 V4.blk).mono ?_
      rintro e w6 ⟨rfl, rfl⟩
      have htl : tot gs.length + c.length = m + 2 := by
        have h1 := congrArg List.length HT.out
        rw [List.length_append, HO.out, HL.out] at h1
        exact h1
      have hc0 := V4.hand.2.2
      have hcs := HC.out
      have hfew := V4.few
      go_wp2_with fail
      go_loopw [11, 12, 13] (fun su si mm wr => ∃ k : Nat, k ≤ gs.length ∧ su = .int .i64 (tot k) ∧ si = .int .i64 (sz k) ∧ mm = .int .i64 k ∧ Below w6.heap.size w6 wr) (fun _ _ mm _ => gs.length - (intOf mm).toNat)
      case atStart => exact ⟨0, Nat.zero_le _, rfl, by rw [show sz 0 = 512 from by decide]; rfl, rfl, Below.refl _ _⟩
      case round =>
        obtain ⟨k, hk, rfl, rfl, rfl, hbr⟩ := hrel
        have hs1 := sz_ge k
        have hs2 := sz_le k
        have hs3 := sz_succ k
        by_cases hlt : k < gs.length
        · obtain ⟨p, hp⟩ : ∃ p, gs[k]? = some p := ⟨gs[k], List.getElem?_eq_getElem hlt⟩
          obtain ⟨g1, hao, hc1, hc2, hg1⟩ := V4.list k p hp
          have hps := HS.out k p hp
          rw [hps] at hc1
          have ht1 : tot (k + 1) = tot k + sz k := rfl
          have ht2 : tot (k + 1) ≤ tot gs.length := tot_mono (by omega)
          have hd1 : wr.cell? ⟨g1, k * 2, none⟩ = some (.slice (some ⟨p.1, 0, none⟩) (sz k) (sz k)) := (hbr.cell (p := ⟨g1, k * 2, none⟩) hg1).trans hc1
          have hd2 : wr.cell? ⟨g1, k * 2 + 1, none⟩ = some (.int .i64 0) := (hbr.cell (p := ⟨g1, k * 2 + 1, none⟩) hg1).trans hc2
          have HT1 : Hid (tot (k + 1) = tot k + sz k) := ht1
          have HS3 : Hid (sz (k + 1) = min (2 * sz k) 65536) := hs3
          have ht4 : (tot k : Int) + (sz k : Int) < ((m : Int) + 2) := by omega
          have ht5 : ¬ (gs.length : Int) ≤ (k : Int) := by omega
          have hj0 : (0 : Int) ≤ (k : Int) := by omega
          have hj1 : (k : Int) < (gs.length : Int) := by omega
          clear ht1 ht2 hs3 hps hc1 hc2 htl hp
          subst hao
          by_cases hsm : sz k ≤ 32768
          · have hm1 : 2 * (sz k : Int) ≤ 65536 := by omega
            go_wp2_with fail
            refine (getBytes _ _ _ _ _).mono ?_
            rintro e w7 ⟨rfl, rfl⟩
            go_wp2_with fail
            go_roundw
            case rel =>
              refine ⟨k + 1, by omega, ?_, ?_, by go_num, hbr.alloc hbr.size _⟩
              · rw [HT1.out]; simp
              · rw [HS3.out, Nat.min_eq_left (by omega)]; simp
            case measure => simp [intOf]; omega
          · have hm1 : 65536 < 2 * (sz k : Int) := by omega
            go_wp2_with fail
            refine (getBytes _ _ _ _ _).mono ?_
            rintro e w7 ⟨rfl, rfl⟩
            go_wp2_with fail
            go_roundw
            case rel =>
              refine ⟨k + 1, by omega, ?_, ?_, by go_num, hbr.alloc hbr.size _⟩
              · rw [HT1.out]; simp
              · rw [HS3.out, Nat.min_eq_right (by omega)]; rfl
            case measure => simp [intOf]; omega
        · have hke : k = gs.length := by omega
          subst hke
          have ht4 : ¬ (tot gs.length : Int) + (sz gs.length : Int) < ((m : Int) + 2) := by omega
          clear hs3
          go_wp2_with fail
          go_ret
          exact ⟨rfl, hbel4.trans (hbr.mono hbel4.size)⟩

set_option maxRecDepth 100000 in
set_option maxHeartbeats 4000000 in
theorem law_small (n : Int) (w : World) (hn : n ≤ 65536) (hlo : -9223372036854775808 ≤ n) (hn1 : ¬ 1 < n) :
    Calls Try.prog 3 #[.int .i64 n] w fun e w' => e = .returned (.bool true) ∧ Below w.heap.size w w' := by
  have hm : (n - 1).toNat = 0 := by omega
  obtain ⟨M, hM, hmk⟩ := make_bytes (2) (by omega)
  have hmk2 : ∀ w : World, (Instr.makeSlice 24 (.int .i64 (2 : Int)) (.int .i64 (2 : Int))).run Try.prog w = .ok (.slice (some ⟨w.heap.size, 0, none⟩) (2) (2)) (w.alloc (.cells M 5)) := hmk
  clear hmk
  have hlen := arrText_length n
  rw [hm] at hlen
  have hget := arrText_get n
  rw [hm] at hget
  have h00 := holds_start w
  have hb00 : Below w.heap.size w (w.alloc (.cells #[.slice none 0 0, .slice none 0 0, .int .i64 0] 26)) := (Below.refl _ _).alloc (Nat.le_refl _) _
  have HG : Hid (∀ (i : Nat), i < 0 + 2 → (arrText n).getD i 0 = if i = 0 then 91 else if i = 0 + 1 then 93 else 44) := hget
  have HL : Hid ((arrText n).length = 0 + 2) := hlen
  clear hget hlen hm
  go_enter Try.func3, Try.ntmps3
  go_wp2_with fail
  refine (blank_any w.heap.size n _ hn h00).mono ?_
  rintro e w1 ⟨rfl, h1, hb1⟩
  have hbel1 := hb00.trans hb1
  clear hb00 hb1 h00
  obtain ⟨ao, cp, gs, g, c, cap, V, htext, hsz, htot, hcsz⟩ := h1.view (by unfold arrText; simp) (by rw [HL.out]; omega)
  have HT : Hid ((gs.map Prod.snd).flatten ++ c = arrText n) := htext
  have HS : Hid (∀ (k : Nat) (p : Nat × List Int), gs[k]? = some p → p.2.length = sz k) := hsz
  have HO : Hid ((gs.map Prod.snd).flatten.length = tot gs.length) := htot
  have HC : Hid (c.length ≤ sz gs.length) := hcsz
  clear h1 htext hsz htot hcsz
  go_wp2_with fail
  go_loopw [7] (fun i wr => ∃ (k : Nat) (A : Array Value), 1 ≤ k ∧ k ≤ 1 ∧ i = .int .i64 k ∧ wr.heap[w1.heap.size]? = some (.cells A 5 (0, 0)) ∧ A.size = 2 ∧ (∀ i, 1 ≤ i → i < k → A[i]? = some (.int .u8 44)) ∧ Below w1.heap.size w1 wr) (fun i _ => 1 - (intOf i).toNat)
  case atStart => exact ⟨1, M, Nat.le_refl _, by omega, rfl, heap_alloc_new w1 _, hM, fun i h1 h2 => by omega, (Below.refl _ _).alloc (Nat.le_refl _) _⟩
  case round =>
    obtain ⟨k, A, hk1, hk2, rfl, hA, hAs, hAc, hbr⟩ := hrel
    by_cases hlt : k < 1
    · omega
    · have hke : k = 1 := by omega
      subst hke
      obtain ⟨o0, hold0⟩ : ∃ old, wr.cell? ⟨w1.heap.size, 0, none⟩ = some old := ⟨A[0]'(by omega), (blk_cell hA 0).trans (Array.getElem?_eq_getElem (by omega))⟩
      obtain ⟨o1, hold1⟩ : ∃ old, wr.cell? ⟨w1.heap.size, 1, none⟩ = some old := ⟨A[1]'(by omega), (blk_cell hA _).trans (Array.getElem?_eq_getElem (by omega))⟩
      have hfr0 := blk_frozen hA 0
      have hfr1 := blk_frozen hA (1)
      go_wp2_with fail
      have hA2 := blk_set (blk_set hA 0 (.int .u8 91)) (1) (.int .u8 93)
      have hbr2 : Below w1.heap.size w1 ((wr.setCell ⟨w1.heap.size, 0, none⟩ (.int .u8 91)).setCell ⟨w1.heap.size, 1, none⟩ (.int .u8 93)) := (hbr.setCell (p := ⟨w1.heap.size, 0, none⟩) (Nat.le_refl _) _).setCell (p := ⟨w1.heap.size, 1, none⟩) (Nat.le_refl _) _
      have hwant : ∀ i, i < 0 + 2 → ((wr.setCell ⟨w1.heap.size, 0, none⟩ (.int .u8 91)).setCell ⟨w1.heap.size, 1, none⟩ (.int .u8 93)).cell? ⟨w1.heap.size, i, none⟩ = some (.int .u8 ((arrText n).getD i 0)) := by
        intro i hi
        rw [blk_cell hA2, HG.out i hi]
        by_cases h1 : i = 0 + 1
        · subst h1
          rw [Array.getElem?_setIfInBounds_self_of_lt (by simp; omega), if_neg (by omega), if_pos rfl]
        · rw [Array.getElem?_setIfInBounds_ne (by omega)]
          by_cases h0 : i = 0
          · subst h0
            rw [Array.getElem?_setIfInBounds_self_of_lt (by omega), if_pos rfl]
          · rw [Array.getElem?_setIfInBounds_ne (by omega), if_neg h0, if_neg h1]
            exact hAc i (by omega) (by omega)
      clear hA hAc hold0 hold1 hfr0 hfr1
      generalize (wr.setCell ⟨w1.heap.size, 0, none⟩ (.int .u8 91)).setCell ⟨w1.heap.size, 1, none⟩ (.int .u8 93) = W2 at *
      have hgw := blk_lt hA2
      have V2 := V.below hbr2
      refine (text_any w.heap.size W2 ao cp gs g c cap V2).mono ?_
      rintro e w3 ⟨g', cap', rfl, hown3, hb3⟩
      have hTT : upto gs gs.length ++ c = arrText n := by rw [upto_all]; exact HT.out
      rw [hTT] at hown3 ⊢
      have HL2 := HL.out
      rw [HL2] at hown3 ⊢
      clear hTT HL2
      have hgot : ∀ i, i < 0 + 2 → w3.cell? ⟨g', i, none⟩ = some (.int .u8 ((arrText n).getD i 0)) := by
        intro i hi
        have hr := Room.of_owns hown3 HL.out.symm
        have hn := hr.news i (.int .u8 ((arrText n).getD i 0)) (by
          simp only [bytesOf, List.getElem?_map, List.getD_eq_getElem?_getD]
          have : i < (arrText n).length := by rw [HL.out]; exact hi
          rw [List.getElem?_eq_getElem this]
          rfl)
        have hadd : (⟨g', 0, none⟩ : Addr).add i = ⟨g', i, none⟩ := by unfold Addr.add; split <;> simp_all
        rw [hadd] at hn
        exact hn
      have hwant3 : ∀ i, i < 0 + 2 → w3.cell? ⟨w1.heap.size, i, none⟩ = some (.int .u8 ((arrText n).getD i 0)) := fun i hi => (hb3.cell (p := ⟨w1.heap.size, i, none⟩) hgw).trans (hwant i hi)
      have V3 := V2.below hb3
      clear hwant V2 hown3 hA2 hgw
      have hbel3 := hbel1.trans ((hbr2.mono hbel1.size).trans (hb3.mono (Nat.le_trans hbel1.size hbr2.size)))
      clear hbr2 hb3 hbr V
      go_wp2_with fail
      refine (equal_any g' w1.heap.size (0 + 2) _ _ (fun i => (arrText n).getD i 0) w3 (by omega) hgot hwant3).mono ?_
      rintro e w4 ⟨rfl, d, rfl⟩
      clear hgot hwant3
      have V4 : View w.heap.size (w3.drewN d) ao cp gs g c cap := V3.below ⟨rfl, rfl, rfl, Nat.le_refl _, fun _ _ => rfl⟩
      have hbel4 := below_drewN hbel3 d
      clear V3 hbel3
      generalize w3.drewN d = w5 at *
      go_wp2_with fail
      refine (getList _ _ _ _ w5 V4.blk).mono ?_
      rintro e w6 ⟨rfl, rfl⟩
      have htl : tot gs.length + c.length = 0 + 2 := by
        have h1 := congrArg List.length HT.out
        rw [List.length_append, HO.out, HL.out] at h1
        exact h1
      have hc0 := V4.hand.2.2
      have hcs := HC.out
      have hfew := V4.few
      go_wp2_with fail
      go_loopw [11, 12, 13] (fun su si mm wr => ∃ k : Nat, k ≤ gs.length ∧ su = .int .i64 (tot k) ∧ si = .int .i64 (sz k) ∧ mm = .int .i64 k ∧ Below w6.heap.size w6 wr) (fun _ _ mm _ => gs.length - (intOf mm).toNat)
      case atStart => exact ⟨0, Nat.zero_le _, rfl, by rw [show sz 0 = 512 from by decide]; rfl, rfl, Below.refl _ _⟩
      case round =>
        obtain ⟨k, hk, rfl, rfl, rfl, hbr⟩ := hrel
        have hs1 := sz_ge k
        have hs2 := sz_le k
        have hs3 := sz_succ k
        by_cases hlt : k < gs.length
        · exfalso; have := tot_ge gs.length; omega
        · have hke : k = gs.length := by omega
          subst hke
          have ht4 : ¬ (tot gs.length : Int) + (sz gs.length : Int) < (2 : Int) := by omega
          clear hs3
          go_wp2_with fail
          go_ret
          exact ⟨rfl, hbel4.trans (hbr.mono hbel4.size)⟩
end Go.Proofs.Qxb6612511a
