import Derived.Test.Qxb6612485aFmtRead2
import Derived.Deep.DrawnRows
namespace Go.Proofs.Qxb6612485aFmt
open Go.RowKit
open Go.Extern.Stop Go.Stop Go.Extern
attribute [local go_sem ↓] Go.wp_at_zero Go.wp_at_succ

theorem bytes_more (A B P : List Int) (u j : Nat) (h : u + j < P.length) : bytesOf (A ++ (B ++ (P.drop u).take (j + 1))) = bytesOf (A ++ (B ++ (P.drop u).take j)) ++ [.int .u8 (P.getD (u + j) 0)] := by
  have h1 : j < (P.drop u).length := by simp; omega
  rw [List.take_succ_eq_append_getElem h1]
  simp [bytesOf, List.getD_eq_getElem?_getD, h]

theorem IsRow.below {k : IntKind} {w w' : World} {a : Option Addr} {len cap : Nat} {zs : List Int} (h : IsRow k w a len cap zs) (hb : Below w.heap.size w w') : IsRow k w' a len cap zs := by
  rcases h with h | ⟨x, e, h1, h2, h3, h4, h5⟩
  · exact .inl h
  · exact .inr ⟨x, e, h1, h2, h3, fun i hi => (hb.cell (World.block_lt_of_cell? w _ (h4 i hi))).trans (h4 i hi), h5⟩

theorem bytes_snoc (l : List Int) (i : Nat) (h : i < l.length) : bytesOf (l.take (i + 1)) = bytesOf (l.take i) ++ [.int .u8 (l.getD i 0)] := by
  rw [List.take_succ_eq_append_getElem h, bytesOf_app]
  simp [bytesOf, List.getD_eq_getElem?_getD, h]

set_option maxRecDepth 100000 in
set_option maxHeartbeats 8000000 in
set_option linter.unusedSimpArgs false in
theorem law2 (F : Interp) (a0 a1 a2 a3 : Option Addr) (n0 n1 n2 n3 c0 c1 c2 c3 : Nat) (z0 z1 z2 z3 : List Int) (w : World) (hF : F.answers w.tape) (h0 : IsRow .u8 w a0 n0 c0 z0) (h1 : IsRow .u8 w a1 n1 c1 z1) (h2 : IsRow .u8 w a2 n2 c2 z2) (h3 : IsRow .u8 w a3 n3 c3 z3) :
    Calls Tryf.prog 4 #[.slice a0 n0 c0, .slice a1 n1 c1, .slice a2 n2 c2, .slice a3 n3 c3] w fun e w' => e = .returned (.bool true) ∧ Below w.heap.size w w' := by
  go_enter Tryf.func4, Tryf.ntmps4
  go_wp2_with fail
  refine (zzb9 a0 a1 a2 a3 n0 n1 n2 n3 c0 c1 c2 c3 w).mono ?_
  rintro e w' ⟨rfl, r, rfl, hr⟩
  cases r with
  | false =>
    clear hr
    go_wp2_with fail
    go_ret
    exact ⟨rfl, Below.refl _ _⟩
  | true =>
    have hs := hr rfl
    clear hr
    by_cases t0 : (262144 : Int) < (n0 : Int)
    · go_wp2_with fail
      go_ret
      exact ⟨rfl, Below.refl _ _⟩
    by_cases t1 : (262144 : Int) < (n1 : Int)
    · go_wp2_with fail
      go_ret
      exact ⟨rfl, Below.refl _ _⟩
    by_cases t2 : (262144 : Int) < (n2 : Int)
    · go_wp2_with fail
      go_ret
      exact ⟨rfl, Below.refl _ _⟩
    by_cases t3 : (262144 : Int) < (n3 : Int)
    · go_wp2_with fail
      go_ret
      exact ⟨rfl, Below.refl _ _⟩
    by_cases t4 : (n2 : Int) < (n1 : Int)
    · go_wp2_with fail
      go_ret
      exact ⟨rfl, Below.refl _ _⟩
    have b2 := h2.byte
    have us_le : ∀ i, us (z2.take n2) i ≤ 255 * i := by
      intro i
      induction i with
      | zero => exact Nat.le_refl _
      | succ i ih => simp only [us]; have := b2 i; omega
    go_wp2_with fail
    go_loopw [9, 10] (fun tv iv wr => ∃ i : Nat, iv = .int .i64 i ∧ i ≤ n1 ∧ tv = .int .i64 (us (z2.take n2) i : Nat) ∧ (∀ j, j < i → (z1.take n1).getD j 0 ≠ 0 ∧ (z1.take n1).getD j 0 ≠ 255) ∧ wr = w') (fun _ iv _ => n1 - (intOf iv).toNat)
    case atStart => exact ⟨0, rfl, Nat.zero_le _, rfl, fun j hj => by omega, rfl⟩
    case round =>
      obtain ⟨i, rfl, hi, rfl, hcs, rfl⟩ := hrel
      by_cases hlt : (i : Int) < (n1 : Int)
      · obtain ⟨g1, o1, rfl, l1, d1⟩ := h1.read i (by omega)
        obtain ⟨g2, o2, rfl, l2, d2⟩ := h2.read i (by omega)
        have hi0 : (0 : Int) ≤ (i : Int) := by omega
        have hi2 : (i : Int) < (n2 : Int) := by omega
        have hbz := b2 i
        have hul := us_le i
        obtain ⟨m, hm⟩ : ∃ m : Nat, (z2.take n2).getD i 0 = m := ⟨((z2.take n2).getD i 0).toNat, by omega⟩
        have HU : Hid (us (z2.take n2) (i + 1) = us (z2.take n2) i + m) := by
          show us (z2.take n2) (i + 1) = us (z2.take n2) i + m
          simp only [us]
          rw [hm]
          rfl
        rw [hm] at d2 hbz
        have HC : Hid ((z1.take n1).getD i 0 ≠ 0 → (z1.take n1).getD i 0 ≠ 255 → ∀ j, j < i + 1 → (z1.take n1).getD j 0 ≠ 0 ∧ (z1.take n1).getD j 0 ≠ 255) := fun e1 e2 j hj => by
          by_cases hji : j = i
          · subst hji; exact ⟨e1, e2⟩
          · exact hcs j (by omega)
        clear hm hcs
        by_cases e0 : (z1.take n1).getD i 0 = 0
        · rw [e0] at d1
          clear HC
          go_wp2_with fail
          go_ret
          exact ⟨rfl, Below.refl _ _⟩
        by_cases e1 : (z1.take n1).getD i 0 = 255
        · rw [e1] at d1
          clear HC
          go_wp2_with fail
          go_ret
          exact ⟨rfl, Below.refl _ _⟩
        have HC' : Hid (∀ j, j < i + 1 → (z1.take n1).getD j 0 ≠ 0 ∧ (z1.take n1).getD j 0 ≠ 255) := HC.out e0 e1
        clear HC
        generalize (z1.take n1).getD i 0 = c at *
        generalize us (z2.take n2) i = u at *
        have f0 : (c == 0) = false := beq_eq_false_iff_ne.2 e0
        have f1 : (c == 255) = false := beq_eq_false_iff_ne.2 e1
        go_wp2_with fail
        go_roundw
        case rel => exact ⟨i + 1, by go_num, by omega, by rw [HU.out]; go_num, HC'.out, trivial⟩
        case measure => simp [intOf]; omega
      · obtain rfl : n1 = i := by omega
        by_cases t5 : (n3 : Int) < ((us (z2.take n2) n1 : Nat) : Int)
        · go_wp2_with fail
          go_ret
          exact ⟨rfl, Below.refl _ _⟩
        have HCS : Hid (∀ j, j < n1 → (z1.take n1).getD j 0 ≠ 0 ∧ (z1.take n1).getD j 0 ≠ 255) := hcs
        clear hcs us_le hlt hi
        go_wp2_with fail
        refine (clone_any a0 n0 c0 z0 wr h0 (by omega)).mono ?_
        rintro e w1 ⟨x0, rfl, o0, q1⟩
        go_wp2_with fail
        refine (clone_any a1 n1 c1 z1 w1 (h1.below q1) (by omega)).mono ?_
        rintro e w2 ⟨x1, rfl, o1, q2⟩
        go_wp2_with fail
        refine (clone_any a2 n2 c2 z2 w2 ((h2.below q1).below q2) (by omega)).mono ?_
        rintro e w3 ⟨x2, rfl, o2, q3⟩
        go_wp2_with fail
        refine (clone_any a3 n3 c3 z3 w3 (((h3.below q1).below q2).below q3) (by omega)).mono ?_
        rintro e w4 ⟨x3, rfl, o3, q4⟩
        have e0 := h0.length
        have e1 := h1.length
        have e2 := h2.length
        have e3 := h3.length
        have R0 : Rd w4 w4.heap.size x0 (z0.take n0) := (((((o0.rd h0.wf (by omega)).below q2).mono q2.size).below q3).mono q3.size |>.below q4).mono q4.size
        have R1 : Rd w4 w4.heap.size x1 (z1.take n1) := (((o1.rd h1.wf (by omega)).below q3).mono q3.size |>.below q4).mono q4.size
        have R2 : Rd w4 w4.heap.size x2 (z2.take n2) := ((o2.rd h2.wf (by omega)).below q4).mono q4.size
        have R3 : Rd w4 w4.heap.size x3 (z3.take n3) := o3.rd h3.wf (by omega)
        have q34 := q3.trans (q4.mono q3.size)
        have q24 := q2.trans (q34.mono q2.size)
        have q14 := q1.trans (q24.mono q1.size)
        have hF4 : F.answers w4.tape := by rw [q14.tape]; exact hF
        clear o0 o1 o2 o3 q1 q2 q3 q4 q34 q24 h0 h1 h2 h3 b2
        generalize z0.take n0 = pre at *
        generalize z1.take n1 = C at *
        generalize z2.take n2 = Z at *
        generalize z3.take n3 = P at *
        subst e0 e1 e2 e3
        have r0 := R0.small
        have r1 := R1.small
        have r2 := R2.small
        have r3 := R3.small
        obtain ⟨N, hN⟩ : ∃ N : Nat, (pre.length : Int) + 2 * (C.length : Int) + (P.length : Int) + 1 = N := ⟨pre.length + 2 * C.length + P.length + 1, by omega⟩
        obtain ⟨M, hM, hmk⟩ := make_room2 N N rfl (by omega)
        go_wp2_with fail
        have HN : Hid ((pre.length : Int) + 2 * (C.length : Int) + (P.length : Int) + 1 = N) := hN
        have hmade := World.ownsRow_made (e := 5) (size := 1) w4 M N (base := w4.heap.size) (Nat.le_refl _) (by unfold maxLen; omega) (by omega)
        have hNle : N ≤ 2000000 := by omega
        clear hN hmk hM
        have hbm : Below w4.heap.size w4 (w4.alloc (.cells M 5)) := (Below.refl _ _).alloc (Nat.le_refl _) _
        have hzm : w4.heap.size ≤ (w4.alloc (.cells M 5)).heap.size := by simp
        generalize w4.alloc (.cells M 5) = w5 at *
        obtain ⟨i5, hi5, h50, h51, h52⟩ := info_parts info5
        go_loopw [11, 12] (fun vm iv wr => ∃ i : Nat, iv = .int .i64 i ∧ i ≤ pre.length ∧ wr.ownsRow w4.heap.size 5 1 vm i (bytesOf (pre.take i)) ∧ Below w4.heap.size w4 wr ∧ w4.heap.size ≤ wr.heap.size) (fun _ iv _ => pre.length - (intOf iv).toNat)
        case atStart => exact ⟨0, rfl, Nat.zero_le _, hmade, hbm, hzm⟩
        case round =>
          obtain ⟨i, rfl, hi, hown, hbr, hsz⟩ := hrel
          by_cases hlt : (i : Int) < (pre.length : Int)
          · obtain ⟨g, rfl, lg, dg⟩ := (R0.below hbr).at_ i (by omega)
            have lg' : g < wr.heap.size := by omega
            have hi0 : (0 : Int) ≤ (i : Int) := by omega
            have HT : Hid (bytesOf (pre.take (i + 1)) = bytesOf (pre.take i) ++ [.int .u8 (pre.getD i 0)]) := bytes_snoc pre i (by omega)
            generalize pre.getD i 0 = x at *
            go_wp2_with (at_builtin; refine wpList_append_own _ rfl _ _ 22 rfl w4.heap.size 5 i5 (.int .u8 0) 1 1 Tryf.underlying22 hi5 h50 h51 h52 rfl (by decide) _ _ _ rfl (hown.alloc _) ⟨wr.heap.size, 0, none⟩ 1 1 [.int .u8 x] rfl rfl (one_new _ _ _) (by simp [Value.oneCell']) ?c3 ?c4 ?c5 ?_)
            case c3 => unfold maxLen; omega
            case c4 => omega
            case c5 => simp; omega
            intro v1 w6 hown1 hg1 _
            have hbr1 : Below w4.heap.size w4 w6 := (hbr.alloc hsz _).grown hg1 (by simp; omega) (fun k hk => (hown.lt k hk).1)
            have hsz1 : w4.heap.size ≤ w6.heap.size := by have := hg1.size; simp at this; omega
            clear hg1 hown
            go_wp2_with fail
            go_roundw
            case rel => exact ⟨i + 1, by go_num, by omega, by rw [HT.out]; exact hown1, hbr1, hsz1⟩
            case measure => simp [intOf]; omega
          · obtain rfl : i = pre.length := by omega
            rw [List.take_length] at hown
            obtain ⟨ao, cp, rfl, _⟩ := own_read hown
            clear hmade hbm hzm hi hlt
            go_wp2_with fail
            go_loopw [11, 14, 15] (fun vm uv iv wr => ∃ i : Nat, iv = .int .i64 i ∧ i ≤ C.length ∧ uv = .int .i64 (us Z i : Nat) ∧ wr.ownsRow w4.heap.size 5 1 vm (pos pre Z i) (bytesOf (pre ++ enc C Z P i)) ∧ Below w4.heap.size w4 wr ∧ w4.heap.size ≤ wr.heap.size) (fun _ _ iv _ => C.length - (intOf iv).toNat)
            case atStart => exact ⟨0, rfl, Nat.zero_le _, rfl, by simpa [pos, us, enc] using hown, hbr, hsz⟩
            case round =>
              clear hown hbr hsz
              obtain ⟨i, rfl, hi, rfl, hown, hbr, hsz⟩ := hrel
              have hbz := R2.byte i
              have hpn := pos_mono pre Z hi
              by_cases hlt : (i : Int) < (C.length : Int)
              · obtain ⟨g1, rfl, l1, d1⟩ := (R1.below hbr).at_ i (by omega)
                obtain ⟨g2, rfl, l2, d2⟩ := (R2.below hbr).at_ i (by omega)
                obtain ⟨m, hm⟩ : ∃ m : Nat, Z.getD i 0 = m := ⟨(Z.getD i 0).toNat, by omega⟩
                rw [hm] at d2 hbz
                have l1' : g1 < wr.heap.size := by omega
                have l2' : g2 < wr.heap.size := by omega
                have hi0 : (0 : Int) ≤ (i : Int) := by omega
                have hi2 : (i : Int) < (Z.length : Int) := by omega
                have HP : Hid (pos pre Z (i + 1) = pos pre Z i + 2 + m) := by
                  show pos pre Z (i + 1) = pos pre Z i + 2 + m
                  rw [pos_succ, hm]
                  rfl
                have HE : Hid (bytesOf (pre ++ enc C Z P (i + 1)) = bytesOf (pre ++ enc C Z P i ++ (C.getD i 0 :: (m : Int) :: (P.drop (us Z i)).take m))) := by
                  show bytesOf (pre ++ enc C Z P (i + 1)) = bytesOf (pre ++ enc C Z P i ++ (C.getD i 0 :: (m : Int) :: (P.drop (us Z i)).take m))
                  simp only [enc, one]
                  rw [hm, List.append_assoc]
                  rfl
                have HU : Hid (us Z (i + 1) = us Z i + m) := by
                  show us Z (i + 1) = us Z i + m
                  simp only [us]
                  rw [hm]
                  rfl
                have hum : us Z i + m ≤ P.length := by
                  have := us_mono Z (show i + 1 ≤ C.length by omega)
                  rw [HU.out] at this
                  omega
                have hpl : pos pre Z i + 2 + m ≤ 1100000 := by
                  have : pos pre Z i = pre.length + (2 * i + us Z i) := rfl
                  omega
                clear hm
                generalize C.getD i 0 = c at *
                go_wp2_with fail
                refine region_L (S := fun w' => w'.cell? ⟨g1, i, none⟩ = some (.int .u8 c) ∧ w'.cell? ⟨g2, i, none⟩ = some (.int .u8 m)) (last := 11) (by kernel_rfl) ?_
                have hS : wr.drew.cell? ⟨g1, i, none⟩ = some (.int .u8 c) ∧ wr.drew.cell? ⟨g2, i, none⟩ = some (.int .u8 m) := ⟨d1, d2⟩
                refine L_take (i := 0) (v := ?v0) rfl (by kernel_rfl) (fun _ _ _ h => h) hS (Or.inl ⟨by rfl, ?y0⟩) ?r0
                case y0 => rintro w' ⟨hS1, hS2⟩; go_simp; try with_reducible rfl
                simp only [Act.put, List.setIfInBounds_toArray, List.set_cons_zero, List.set_cons_succ]
                refine L_take (i := 1) (v := ?v1) rfl (by kernel_rfl) (fun _ _ _ h => h) hS (Or.inl ⟨by rfl, ?y1⟩) ?r1
                case y1 => rintro w' ⟨hS1, hS2⟩; go_simp; try with_reducible rfl
                simp only [Act.put, List.setIfInBounds_toArray, List.set_cons_zero, List.set_cons_succ]
                refine L_take (i := 2) (v := ?v2) rfl (by kernel_rfl) (fun _ _ _ h => h) hS (Or.inl ⟨by rfl, ?y2⟩) ?r2
                case y2 => rintro w' ⟨hS1, hS2⟩; go_simp; try with_reducible rfl
                simp only [Act.put, List.setIfInBounds_toArray, List.set_cons_zero, List.set_cons_succ]
                refine L_take (i := 3) (v := ?v3) rfl (by kernel_rfl) (fun _ _ _ h => h) hS (Or.inl ⟨by rfl, ?y3⟩) ?r3
                case y3 => rintro w' ⟨hS1, hS2⟩; go_simp; try with_reducible rfl
                simp only [Act.put, List.setIfInBounds_toArray, List.set_cons_zero, List.set_cons_succ]
                refine L_take (i := 4) (v := ?v4) rfl (by kernel_rfl) (fun _ _ _ h => h) hS (Or.inl ⟨by rfl, ?y4⟩) ?r4
                case y4 => rintro w' ⟨hS1, hS2⟩; go_simp; try with_reducible rfl
                simp only [Act.put, List.setIfInBounds_toArray, List.set_cons_zero, List.set_cons_succ]
                refine L_take (i := 5) (v := ?v5) rfl (by kernel_rfl) (fun _ _ _ h => h) hS (Or.inl ⟨by rfl, ?y5⟩) ?r5
                case y5 => rintro w' ⟨hS1, hS2⟩; go_simp; try with_reducible rfl
                simp only [Act.put, List.setIfInBounds_toArray, List.set_cons_zero, List.set_cons_succ]
                refine L_take (i := 6) (v := ?v6) rfl (by kernel_rfl) (fun _ _ _ h => h) hS (Or.inl ⟨by rfl, ?y6⟩) ?r6
                case y6 => rintro w' ⟨hS1, hS2⟩; go_simp; try with_reducible rfl
                simp only [Act.put, List.setIfInBounds_toArray, List.set_cons_zero, List.set_cons_succ]
                refine L_take (i := 7) (v := ?v7) rfl (by kernel_rfl) (fun _ _ _ h => h) hS (Or.inl ⟨by rfl, ?y7⟩) ?r7
                case y7 => rintro w' ⟨hS1, hS2⟩; go_simp; try with_reducible rfl
                simp only [Act.put, List.setIfInBounds_toArray, List.set_cons_zero, List.set_cons_succ]
                refine L_take (i := 8) (v := ?v8) rfl (by kernel_rfl) (fun _ _ _ h => h) hS (Or.inl ⟨by rfl, ?y8⟩) ?r8
                case y8 => rintro w' ⟨hS1, hS2⟩; go_simp; try with_reducible rfl
                simp only [Act.put, List.setIfInBounds_toArray, List.set_cons_zero, List.set_cons_succ]
                refine L_only (i := 9) (by kernel_rfl) rfl rfl (fun K hK => ?_)
                go_simp
                have hb1 : Below w4.heap.size w4 (wr.alloc (.cells #[.int .u8 c, .int .u8 m] 5)).drew := (hbr.alloc hsz _).drew
                have hw1 : (wr.alloc (.cells #[.int .u8 c, .int .u8 m] 5)).drew.ownsRow w4.heap.size 5 1 u11 (pos pre Z i) (bytesOf (pre ++ enc C Z P i)) := (hown.alloc _).drew
                have hn1 : (wr.alloc (.cells #[.int .u8 c, .int .u8 m] 5)).drew.heap[wr.heap.size]? = some (.cells #[.int .u8 c, .int .u8 m] 5 (0, 0)) := heap_alloc_new wr _
                have hz1 : w4.heap.size ≤ (wr.alloc (.cells #[.int .u8 c, .int .u8 m] 5)).drew.heap.size := by simp; omega
                have hS1 : (wr.alloc (.cells #[.int .u8 c, .int .u8 m] 5)).drew.cell? ⟨g1, i, none⟩ = some (.int .u8 c) ∧ (wr.alloc (.cells #[.int .u8 c, .int .u8 m] 5)).drew.cell? ⟨g2, i, none⟩ = some (.int .u8 m) :=
                  ⟨(hb1.cell (p := ⟨g1, i, none⟩) l1).trans ((hbr.cell (p := ⟨g1, i, none⟩) l1).symm.trans d1), (hb1.cell (p := ⟨g2, i, none⟩) l2).trans ((hbr.cell (p := ⟨g2, i, none⟩) l2).symm.trans d2)⟩
                refine hK _ _ (fun _ => hS1) ?_
                clear hK K hS
                generalize (wr.alloc (.cells #[.int .u8 c, .int .u8 m] 5)).drew = W2 at *
                refine L_only (i := 10) (by kernel_rfl) rfl rfl (fun K hK => ?_)
                refine wp_append_lies W2 (.tmp 120) (.tmp 129) 22 rfl w4.heap.size 5 i5 _ 1 1 Tryf.underlying22 hi5 h50 h51 h52 rfl (by decide) u11 (pos pre Z i) _ rfl hw1 ⟨wr.heap.size, 0, none⟩ 2 2 [.int .u8 c, .int .u8 m] rfl rfl (World.news_of_block hn1) (by simp [Value.oneCell']) (by omega) (by unfold maxLen; omega) (by omega) hz1 W2.heap.size rfl ?_
                intro g3 cap3 w6 hown1 hgrow _ _
                have hbr1 : Below w4.heap.size w4 w6 := hb1.grown hgrow hz1 (fun k hk => (hw1.lt k hk).1)
                have hsz1 : w4.heap.size ≤ w6.heap.size := Nat.le_trans hz1 hgrow.size
                have e1 : w6.cell? ⟨g1, i, none⟩ = some (.int .u8 c) := (hbr1.cell (p := ⟨g1, i, none⟩) l1).trans ((hbr.cell (p := ⟨g1, i, none⟩) l1).symm.trans d1)
                have e2 : w6.cell? ⟨g2, i, none⟩ = some (.int .u8 m) := (hbr1.cell (p := ⟨g2, i, none⟩) l2).trans ((hbr.cell (p := ⟨g2, i, none⟩) l2).symm.trans d2)
                refine hK _ _ (fun _ => ⟨e1, e2⟩) ?_
                clear hK K hgrow hw1 hn1 hz1 hS1 hb1 hown
                simp only [Act.put, List.setIfInBounds_toArray, List.set_cons_zero, List.set_cons_succ]
                refine L_only (i := 11) (by kernel_rfl) rfl rfl (fun K hK => ?_)
                go_simp
                refine hK _ _ (fun h => absurd rfl h) ?_
                clear hK K
                refine L_done (by kernel_rfl) ?_ _
                go_wp2_with fail
                go_loopw [11, 14, 16] (fun vm uv jv wj => ∃ j : Nat, jv = .int .i64 j ∧ j ≤ m ∧ uv = .int .i64 ((us Z i + j : Nat) : Int) ∧ wj.ownsRow w4.heap.size 5 1 vm (pos pre Z i + 2 + j) (bytesOf (pre ++ enc C Z P i ++ (c :: (m : Int) :: (P.drop (us Z i)).take j))) ∧ Below w4.heap.size w4 wj ∧ w4.heap.size ≤ wj.heap.size) (fun _ _ jv _ => m - (intOf jv).toNat)
                case atStart =>
                  refine ⟨0, rfl, Nat.zero_le _, rfl, ?_, hbr1, hsz1⟩
                  rw [bytesOf_app]
                  exact hown1
                case round =>
                  clear hown1 hbr1 hsz1 e1 e2
                  obtain ⟨j, rfl, hj, rfl, hown, hbr2, hsz2⟩ := hrel
                  generalize us Z i = u at *
                  have e2 : wr.cell? ⟨g2, i, none⟩ = some (.int .u8 m) := (hbr2.cell (p := ⟨g2, i, none⟩) l2).trans ((hbr.cell (p := ⟨g2, i, none⟩) l2).symm.trans d2)
                  have l2'' : g2 < wr.heap.size := by omega
                  clear d1 d2 l1' l2' hbr hsz
                  by_cases hjm : (j : Int) < (m : Int)
                  · obtain ⟨g4, rfl, l4, d4⟩ := (R3.below hbr2).at_ (u + j) (by omega)
                    have l4' : g4 < wr.heap.size := by omega
                    have hu0 : (0 : Int) ≤ (u : Int) + (j : Int) := by omega
                    have hu1 : (u : Int) + (j : Int) < (P.length : Int) := by omega
                    have HT : Hid (bytesOf (pre ++ enc C Z P i ++ (c :: (m : Int) :: (P.drop u).take (j + 1))) = bytesOf (pre ++ enc C Z P i ++ (c :: (m : Int) :: (P.drop u).take j)) ++ [.int .u8 (P.getD (u + j) 0)]) := bytes_more (pre ++ enc C Z P i) [c, (m : Int)] P u j (by omega)
                    generalize P.getD (u + j) 0 = x at *
                    go_wp2_with (at_builtin; refine wpList_append_own _ rfl _ _ 22 rfl w4.heap.size 5 i5 (.int .u8 0) 1 1 Tryf.underlying22 hi5 h50 h51 h52 rfl (by decide) _ _ _ rfl (hown.alloc _) ⟨wr.heap.size, 0, none⟩ 1 1 [.int .u8 x] rfl rfl (one_new _ _ _) (by simp [Value.oneCell']) ?c3 ?c4 ?c5 ?_)
                    case c3 => unfold maxLen; omega
                    case c4 => omega
                    case c5 => simp; omega
                    intro v1 w7 hown1 hg1 _
                    have hbr3 : Below w4.heap.size w4 w7 := (hbr2.alloc hsz2 _).grown hg1 (by simp; omega) (fun k hk => (hown.lt k hk).1)
                    have hsz3 : w4.heap.size ≤ w7.heap.size := by have := hg1.size; simp at this; omega
                    clear hg1 hown
                    go_wp2_with fail
                    go_roundw
                    case rel => exact ⟨j + 1, by go_num, by omega, by go_num, by rw [HT.out, List.append_assoc]; exact hown1, hbr3, hsz3⟩
                    case measure => simp [intOf]; omega
                  · obtain rfl : j = m := by omega
                    go_wp2_with fail
                    go_roundw
                    case rel => exact ⟨i + 1, by go_num, by omega, by rw [HU.out], by rw [HP.out, HE.out]; exact hown, hbr2, hsz2⟩
                    case measure => simp [intOf]; omega
              · obtain rfl : C.length = i := by omega
                obtain ⟨ao1, cp1, rfl, _⟩ := own_read hown
                clear hlt hpn hi hbz
                have hpl : pos pre Z C.length ≤ 1100000 := by
                  have : pos pre Z C.length = pre.length + (2 * C.length + us Z C.length) := rfl
                  omega
                go_wp2_with (at_builtin; refine wpList_append_own _ rfl _ _ 22 rfl w4.heap.size 5 i5 (.int .u8 0) 1 1 Tryf.underlying22 hi5 h50 h51 h52 rfl (by decide) _ _ _ rfl (hown.alloc _) ⟨wr.heap.size, 0, none⟩ 1 1 [.int .u8 255] rfl rfl (one_new _ _ _) (by simp [Value.oneCell']) ?c3 ?c4 ?c5 ?_)
                case c3 => unfold maxLen; omega
                case c4 => omega
                case c5 => simp; omega
                intro v1 w7 hown1 hg1 _
                have hbr3 : Below w4.heap.size w4 w7 := (hbr.alloc hsz _).grown hg1 (by simp; omega) (fun k hk => (hown.lt k hk).1)
                have hsz3 : w4.heap.size ≤ w7.heap.size := by have := hg1.size; simp at this; omega
                clear hg1 hown hbr hsz
                go_wp2_with fail
                go_loopw [11, 14] (fun vm uv wj => ∃ j : Nat, us Z C.length + j ≤ P.length ∧ uv = .int .i64 ((us Z C.length + j : Nat) : Int) ∧ wj.ownsRow w4.heap.size 5 1 vm (pos pre Z C.length + 1 + j) (bytesOf (pre ++ enc C Z P C.length ++ (255 :: (P.drop (us Z C.length)).take j))) ∧ Below w4.heap.size w4 wj ∧ w4.heap.size ≤ wj.heap.size) (fun _ uv _ => P.length - (intOf uv).toNat)
                case atStart =>
                  refine ⟨0, by omega, rfl, ?_, hbr3, hsz3⟩
                  rw [bytesOf_app]
                  exact hown1
                case round =>
                  clear hown1 hbr3 hsz3
                  obtain ⟨j, hj, rfl, hown, hbr2, hsz2⟩ := hrel
                  by_cases hlt : ((us Z C.length : Nat) : Int) + (j : Int) < (P.length : Int)
                  · obtain ⟨g4, rfl, l4, d4⟩ := (R3.below hbr2).at_ (us Z C.length + j) (by omega)
                    have l4' : g4 < wr.heap.size := by omega
                    have hu0 : (0 : Int) ≤ ((us Z C.length : Nat) : Int) + (j : Int) := by omega
                    have HT : Hid (bytesOf (pre ++ enc C Z P C.length ++ (255 :: (P.drop (us Z C.length)).take (j + 1))) = bytesOf (pre ++ enc C Z P C.length ++ (255 :: (P.drop (us Z C.length)).take j)) ++ [.int .u8 (P.getD (us Z C.length + j) 0)]) := bytes_more (pre ++ enc C Z P C.length) [255] P (us Z C.length) j (by omega)
                    generalize P.getD (us Z C.length + j) 0 = x at *
                    go_wp2_with (at_builtin; refine wpList_append_own _ rfl _ _ 22 rfl w4.heap.size 5 i5 (.int .u8 0) 1 1 Tryf.underlying22 hi5 h50 h51 h52 rfl (by decide) _ _ _ rfl (hown.alloc _) ⟨wr.heap.size, 0, none⟩ 1 1 [.int .u8 x] rfl rfl (one_new _ _ _) (by simp [Value.oneCell']) ?c3 ?c4 ?c5 ?_)
                    case c3 => unfold maxLen; omega
                    case c4 => omega
                    case c5 => simp; omega
                    intro v1 w7 hown1 hg1 _
                    have hbr3 : Below w4.heap.size w4 w7 := (hbr2.alloc hsz2 _).grown hg1 (by simp; omega) (fun k hk => (hown.lt k hk).1)
                    have hsz3 : w4.heap.size ≤ w7.heap.size := by have := hg1.size; simp at this; omega
                    clear hg1 hown
                    go_wp2_with fail
                    go_roundw
                    case rel => exact ⟨j + 1, by omega, by go_num, by rw [HT.out, List.append_assoc]; exact hown1, hbr3, hsz3⟩
                    case measure => simp [intOf]; omega
                  · have hU : us Z C.length ≤ P.length := by omega
                    have hjl : j = (P.drop (us Z C.length)).length := by simp; omega
                    have hW : wr.ownsRow w4.heap.size 5 1 u11 (whole pre C Z P C.length (P.drop (us Z C.length))).length (bytesOf (whole pre C Z P C.length (P.drop (us Z C.length)))) := by
                      rw [whole_length pre C Z P C.length _ hU, ← hjl]
                      have e : (P.drop (us Z C.length)).take j = P.drop (us Z C.length) := by rw [hjl, List.take_length]
                      rw [e] at hown
                      exact hown
                    have hWl := whole_length pre C Z P C.length (P.drop (us Z C.length)) hU
                    rw [← hjl] at hWl
                    have hWb := whole_byte (pre := pre) (C := C) (Z := Z) (P := P) R0.byte R1.byte R2.byte R3.byte C.length (us Z C.length)
                    obtain ⟨g, cap, rfl, _, _⟩ := hW.form (by omega)
                    obtain ⟨RM, hcap⟩ := rd_own hW rfl hWb (by omega)
                    have hp0 : pos pre Z 0 = pre.length := by simp [pos, us]
                    have hs1 : spec (whole pre C Z P C.length (P.drop (us Z C.length))) (((whole pre C Z P C.length (P.drop (us Z C.length))).length : Int)).toNat pre.length = ((List.range' 0 C.length).map (optAt pre C Z), false) := by
                      rw [Int.toNat_natCast, ← hp0]
                      exact spec_all hU HCS.out _ _ (by omega) C.length 0 (by omega)
                    have hs2 : spec (whole pre C Z P C.length (P.drop (us Z C.length))) (((pos pre Z C.length : Nat) : Int)).toNat pre.length = ((List.range' 0 C.length).map (optAt pre C Z), false) := by
                      rw [Int.toNat_natCast, ← hp0]
                      exact spec_all hU HCS.out _ _ (Nat.le_refl _) C.length 0 (by omega)
                    have hs3 : 0 < C.length → spec (whole pre C Z P C.length (P.drop (us Z C.length))) (((pos pre Z C.length : Nat) : Int) - 1).toNat pre.length = ((List.range' 0 (C.length - 1)).map (optAt pre C Z), true) := by
                      intro h
                      rw [show (((pos pre Z C.length : Nat) : Int) - 1).toNat = pos pre Z C.length - 1 by omega, ← hp0]
                      exact spec_cut hU (fun i => (R2.byte i).1) HCS.out _ (C.length - 1) 0 (by omega)
                    have HS1 : Hid _ := hs1
                    have HS2 : Hid _ := hs2
                    have HS3 : Hid _ := hs3
                    have HJ : Hid (us Z C.length + j = P.length) := (by omega : us Z C.length + j = P.length)
                    have hEnd : pos pre Z C.length + 1 ≤ (whole pre C Z P C.length (P.drop (us Z C.length))).length := by omega
                    have HB := q14.trans (hbr2.mono q14.size)
                    have S1 : Rd wr wr.heap.size x1 C := (R1.below hbr2).mono hsz2
                    have S2 : Rd wr wr.heap.size x2 Z := (R2.below hbr2).mono hsz2
                    have S3 : Rd wr wr.heap.size x3 P := (R3.below hbr2).mono hsz2
                    have hF5 : F.answers wr.tape := by rw [hbr2.tape]; exact hF4
                    have hnotlt : ¬ ((us Z C.length : Nat) : Int) + (j : Int) < (P.length : Int) := hlt
                    rw [← hWl] at hown
                    clear hs1 hs2 hs3 hown hW hjl R0 R1 R2 R3 hbr2 hsz2 hF4 hj hlt HCS hWb hp0
                    generalize hM0 : whole pre C Z P C.length (P.drop (us Z C.length)) = M0 at *
                    have HM : Hid (whole pre C Z P C.length (P.drop (us Z C.length)) = M0) := hM0
                    clear hM0
                    clear hWl
                    go_wp2_with fail
                    refine (zz_read2 F g cap pre C Z P _ C.length C.length false M0.length _ wr M0 HM.out hF5 hU RM hcap (Int.le_refl _) (Nat.le_refl _) HS1.out).mono ?_
                    rintro e w8 ⟨p1a, q1a, p2a, q2a, erra, Da, rfl, herr, y1, y2, hD, hb8⟩
                    have hcmp := cmp_err herr
                    have hgrd := grd_err herr .neq (.inl rfl)
                    have T1a := (S1.below hb8).mono hb8.size
                    have T2a := (S2.below hb8).mono hb8.size
                    have T3a := (S3.below hb8).mono hb8.size
                    have RMa := (RM.below hb8).mono hb8.size
                    have HBa := HB.trans (hb8.mono HB.size)
                    have hFa : F.answers w8.tape := by rw [hb8.tape]; exact hF5
                    clear herr hb8
                    go_wp2_with fail
                    refine (same_int C.length C.length C.length Z.length rfl q1a q2a C.length Z.length P.length p1a p2a x1 x2 x3 C Z P Da w8 y1 y2 T1a.rd T2a.rd T3a.rd (Nat.le_refl _) (by omega) T2a.byte hU r3 (by omega) hD).mono ?_
                    rintro e w9 ⟨rfl, _, hb9⟩
                    have V1a := (T1a.below hb9).mono hb9.size
                    have V2a := (T2a.below hb9).mono hb9.size
                    have V3a := (T3a.below hb9).mono hb9.size
                    have VMa := (RMa.below hb9).mono hb9.size
                    have VBa := HBa.trans (hb9.mono HBa.size)
                    have VFa : F.answers w9.tape := by rw [hb9.tape]; exact hFa
                    clear hb9 hcmp hgrd y1 y2 hD T1a T2a T3a RMa HBa hFa
                    clear S1 S2 S3 hF5 RM HB
                    go_wp2_with fail
                    refine (zz_read2 F g cap pre C Z P _ C.length C.length false ((pos pre Z C.length : Nat) : Int) _ w9 M0 HM.out VFa hU VMa hcap (by omega) (Nat.le_refl _) HS2.out).mono ?_
                    rintro e w10 ⟨p1b, q1b, p2b, q2b, errb, Db, rfl, herr, y1, y2, hD, hb8⟩
                    have hcmp := cmp_err herr
                    have hgrd := grd_err herr .neq (.inl rfl)
                    have T1b := (V1a.below hb8).mono hb8.size
                    have T2b := (V2a.below hb8).mono hb8.size
                    have T3b := (V3a.below hb8).mono hb8.size
                    have RMb := (VMa.below hb8).mono hb8.size
                    have HBb := VBa.trans (hb8.mono VBa.size)
                    have hFb : F.answers w10.tape := by rw [hb8.tape]; exact VFa
                    clear herr hb8
                    go_wp2_with fail
                    refine (same_int C.length C.length C.length Z.length rfl q1b q2b C.length Z.length P.length p1b p2b x1 x2 x3 C Z P Db w10 y1 y2 T1b.rd T2b.rd T3b.rd (Nat.le_refl _) (by omega) T2b.byte hU r3 (by omega) hD).mono ?_
                    rintro e w11 ⟨rfl, _, hb9⟩
                    have V1b := (T1b.below hb9).mono hb9.size
                    have V2b := (T2b.below hb9).mono hb9.size
                    have V3b := (T3b.below hb9).mono hb9.size
                    have VMb := (RMb.below hb9).mono hb9.size
                    have VBb := HBb.trans (hb9.mono HBb.size)
                    have VFb : F.answers w11.tape := by rw [hb9.tape]; exact hFb
                    clear hb9 hcmp hgrd y1 y2 hD T1b T2b T3b RMb HBb hFb
                    clear V1a V2a V3a VFa VMa VBa
                    by_cases hC : (0 : Int) < (C.length : Int)
                    · go_wp2_with fail
                      refine (zz_read2 F g cap pre C Z P _ C.length (C.length - 1) true (((pos pre Z C.length : Nat) : Int) - 1) _ w11 M0 HM.out VFb hU VMb hcap (by omega) (Nat.sub_le _ _) (HS3.out (by omega))).mono ?_
                      rintro e w12 ⟨p1c, q1c, p2c, q2c, errc, Dc, rfl, herr, y1, y2, hD, hb8⟩
                      have hcmp := cmp_eql herr
                      have hgrd := grd_err herr .eql (.inr rfl)
                      have T1c := (V1b.below hb8).mono hb8.size
                      have T2c := (V2b.below hb8).mono hb8.size
                      have T3c := (V3b.below hb8).mono hb8.size
                      have RMc := (VMb.below hb8).mono hb8.size
                      have HBc := VBb.trans (hb8.mono VBb.size)
                      have hFc : F.answers w12.tape := by rw [hb8.tape]; exact VFb
                      clear herr hb8
                      go_wp2_with fail
                      refine (same_int ((C.length : Int) - 1) (C.length - 1) C.length Z.length (by omega) q1c q2c C.length Z.length P.length p1c p2c x1 x2 x3 C Z P Dc w12 y1 y2 T1c.rd T2c.rd T3c.rd (Nat.sub_le _ _) (by omega) T2c.byte (Nat.le_trans (us_mono Z (by omega)) hU) r3 (by omega) hD).mono ?_
                      rintro e w13 ⟨rfl, _, hb9⟩
                      have V1c := (T1c.below hb9).mono hb9.size
                      have V2c := (T2c.below hb9).mono hb9.size
                      have V3c := (T3c.below hb9).mono hb9.size
                      have VMc := (RMc.below hb9).mono hb9.size
                      have VBc := HBc.trans (hb9.mono HBc.size)
                      have VFc : F.answers w13.tape := by rw [hb9.tape]; exact hFc
                      clear hb9 hcmp hgrd y1 y2 hD T1c T2c T3c RMc HBc hFc
                      go_wp2_with fail
                      go_ret
                      exact ⟨rfl, VBc⟩
                    · go_wp2_with fail
                      go_ret
                      exact ⟨rfl, VBb⟩
end Go.Proofs.Qxb6612485aFmt
