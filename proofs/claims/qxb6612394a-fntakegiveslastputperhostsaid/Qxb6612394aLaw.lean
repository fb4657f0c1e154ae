import Derived.Test.Qxb6612394aDrain
namespace Go.Proofs.Qxb6612394a
open Go.RowKit Go.Maps
attribute [local go_sem ↓] Go.wp_at_zero Go.wp_at_succ

theorem info9 : (Try.prog.info? 9).map (fun i => (i.zero, i.size, i.bytes)) = some (some (.string ⟨#[]⟩), 1, 16) := by kernel_rfl
theorem info34 : (Try.prog.info? 34).map (fun i => (i.zero, i.size, i.bytes)) = some (some (.slice none 0 0), 1, 24) := by kernel_rfl

theorem LI.start (w : World) : LI w.heap.size w ((w.alloc (.map #[] 0)).alloc (.cells (CL w.heap.size 0) 51)) 0 0 [] [] [] (.slice none 0 0) (.slice none 0 0) := by
  have hb : ((w.alloc (.map #[] 0)).alloc (.cells (CL w.heap.size 0) 51)).heap[w.heap.size + 1]? = some (.cells (CL w.heap.size 0) 51 (0, 0)) := by
    have := heap_alloc_new (w.alloc (.map #[] 0)) (.cells (CL w.heap.size 0) 51)
    simpa using this
  have hm : MapSt ((w.alloc (.map #[] 0)).alloc (.cells (CL w.heap.size 0) 51)) w.heap.size 0 (fun _ => .slice none 0 0) := (MapSt.made w).kept (Below.heap_alloc _ _ _ (by simp))
  exact ⟨⟨hb, ⟨_, hm, (fun k h r hk => by simp at hk), fun _ _ => rfl⟩, ⟨(fun r hr => by simp at hr), List.nodup_nil⟩, rfl, List.nodup_nil, by omega, by omega, by omega, by simp⟩, World.ownsRow_nil _ _ _ _, World.ownsRow_nil _ _ _ _, rfl, Nat.le_refl _, Nat.le_refl _, (fun r hr => by simp at hr), (fun h hh => by simp at hh), ((Below.refl _ _).alloc (Nat.le_refl _) _).alloc (by simp) _⟩

theorem strs_at {hs : List ByteArray} {k : Nat} {h : ByteArray} (e : hs[k]? = some h) : (strsOf hs)[k]? = some (.string h) := by
  unfold strsOf
  rw [List.getElem?_map, e]
  rfl
/-- How long the slice in a cell is. -/
def lenAt (w : World) (g k : Nat) : Nat := match w.cell? ⟨g, k, none⟩ with
  | some (.slice _ n _) => n
  | _ => 0
theorem lenAt_of {w : World} {g k n cap : Nat} {a : Option Addr} (h : w.cell? ⟨g, k, none⟩ = some (.slice a n cap)) : lenAt w g k = n := by
  unfold lenAt
  rw [h]
theorem own_at {w : World} {B g n cap : Nat} {e : TypeId} {xs : List Value} (h : w.ownsRow B e 1 (.slice (some ⟨g, 0, none⟩) n cap) n xs) {k : Nat} (hk : k < n) : w.cell? ⟨g, k, none⟩ = xs[k]? := by
  obtain ⟨ao, cp, e1, hr⟩ := own_read h
  cases e1
  obtain ⟨g', e2, _, _, h2⟩ := hr k hk
  cases e2
  exact h2

set_option maxRecDepth 100000 in
set_option maxHeartbeats 4000000 in
set_option linter.unusedSimpArgs false in
theorem law_any (a : Option Addr) (cap : Nat) (os : List (Bool × ByteArray)) (w : World) (h : IsOps w a os) :
    Calls Try.prog 3 #[.slice a os.length cap] w fun e w' => e = .returned (.bool true) ∧ Below w.heap.size w w' := by
  obtain ⟨i9, hi9, h90, h91, h92⟩ := info_parts info9
  obtain ⟨i34, hi34, h340, h341, h342⟩ := info_parts info34
  obtain ⟨i31, hi31, h310, h311, h312⟩ := info_parts info31
  go_enter Try.func3, Try.ntmps3
  go_wp2_with fail
  refine (zzb4 a cap os w h).mono ?_
  rintro e w' ⟨rfl, r, rfl, hr⟩
  cases r with
  | false =>
    clear hr
    go_wp2_with fail
    go_ret
    exact ⟨rfl, Below.refl _ _⟩
  | true =>
    have hfit : Fits os := hr rfl
    clear hr
    by_cases h1 : (4096 : Int) < (os.length : Int)
    · go_wp2_with fail
      go_ret
      exact ⟨rfl, Below.refl _ _⟩
    go_wp2_with fail
    go_loopw [3, 4] (fun tv iv wr => ∃ (i t : Nat), iv = .int .i64 i ∧ i ≤ os.length ∧ tv = .int .i64 t ∧ t ≤ 98304 + i * 1048576 ∧ wr = w') (fun _ iv _ => os.length - (intOf iv).toNat)
    case atStart => exact ⟨0, os.length * 24, rfl, Nat.zero_le _, by go_num, by omega, rfl⟩
    case round =>
      obtain ⟨i, t, rfl, hi, rfl, ht, rfl⟩ := hrel
      by_cases hlt : (i : Int) < (os.length : Int)
      · obtain ⟨⟨p, s⟩, hps⟩ : ∃ x, os[i]? = some x := ⟨os[i]'(by omega), List.getElem?_eq_getElem _⟩
        obtain ⟨g, o, rfl, l, d1, d2⟩ := h i p s hps
        have hss := hfit i p s hps
        have hi0 : (0 : Int) ≤ (i : Int) := by omega
        clear hps
        go_wp2_with fail
        go_roundw
        case rel => exact ⟨i + 1, t + s.size, by go_num, by omega, by go_num, by omega, trivial⟩
        case measure => simp [intOf]; omega
      · by_cases ht2 : (1048576 : Int) < (t : Int)
        · go_wp2_with fail
          go_ret
          exact ⟨rfl, Below.refl _ _⟩
        go_wp2_with fail
        refine (newCluster wr).mono ?_
        rintro e w1 ⟨rfl, hw1⟩
        have L0 := LI.start wr
        rw [← hw1] at L0
        clear hw1 ht ht2
        generalize hB0 : wr.heap.size = B0 at L0 ⊢
        obtain ⟨W0, hW0⟩ : ∃ W0, W0 = wr := ⟨_, rfl⟩
        have HW0 : Hid (W0 = wr) := hW0
        rw [← hW0] at L0 h hB0
        have HB0 : Hid (W0.heap.size = B0) := hB0
        clear hB0 hW0
        go_wp2_with fail
        go_loopw [6, 7, 8] (fun vh vs iv wj => ∃ (i n : Nat) (hs : List ByteArray) (ss ms : List Rw), iv = .int .i64 i ∧ i ≤ os.length ∧ LI B0 W0 wj i n hs ss ms vh vs) (fun _ _ iv _ => os.length - (intOf iv).toNat)
        case atStart => exact ⟨0, 0, [], [], [], rfl, Nat.zero_le _, L0⟩
        case round =>
          clear L0 hlt hi
          obtain ⟨i, n, hs, ss, ms, rfl, hi, L⟩ := hrel
          obtain ⟨lss0, lms0⟩ := L.lens
          have lss1 : hs.length ≤ ss.length := by omega
          have lss2 : ss.length ≤ hs.length := by omega
          have lms1 : hs.length ≤ ms.length := by omega
          have lms2 : ms.length ≤ hs.length := by omega
          clear lss0 lms0
          have hfew := L.few
          have hnum := L.num
          by_cases hlt : (i : Int) < (os.length : Int)
          · obtain ⟨⟨p, s⟩, hps⟩ : ∃ x, os[i]? = some x := ⟨os[i]'(by omega), List.getElem?_eq_getElem _⟩
            have hss := hfit i p s hps
            have hmx : s.size ≤ maxLen := by unfold maxLen; omega
            obtain ⟨g, o, rfl, l, d1, d2⟩ := (h.below (by rw [HB0.out]; exact L.below)) i p s hps
            have hi0 : (0 : Int) ≤ (i : Int) := by omega
            clear hps
            go_wp2_with fail
            refine (find_any (B0 + 2) u6 hs s wr L.hosts (by omega)).mono ?_
            rintro e w2 ⟨rfl, r, rfl, hfound⟩
            cases p with
            | true =>
              rcases hfound with ⟨k, rfl, hk⟩ | ⟨rfl, hk⟩
              · have hkl : k < hs.length := (List.getElem?_eq_some_iff.1 hk).1
                obtain ⟨s1, r1, hs1, hr1, hsl⟩ := L.rowsAt hkl
                have hr1s := L.short r1 (List.mem_of_getElem? hr1)
                have hk0 : (0 : Int) ≤ (k : Int) := by omega
                have hkS : (k : Int) < (ss.length : Int) := by omega
                go_wp2_with fail
                refine (newConn w2).mono ?_
                rintro e w3 ⟨rfl, hw3⟩
                have L3 : LI B0 W0 w3 i n hs ss ms u6 u7 := L.grow (by rw [hw3]; exact (Below.refl _ _).alloc (Nat.le_refl _) _)
                generalize w2.heap.size = c0 at *
                clear hw3 L
                go_wp2_with fail
                refine (put_old L3.cs hmx (by unfold maxLen; omega) hk hr1 (by omega) c0).mono ?_
                rintro e w4 ⟨rfl, r', hrl, C4, hK⟩
                have hr1row : Row w3 (B0 + 2) r1 := L3.cs.rows.own r1 (List.mem_append_right _ (List.mem_of_getElem? hr1))
                have hty : ∀ g', some r1.g = some g' → ∃ cu, w3.heap[g']? = some (.cells cu 31 (0, 0)) := fun g' e => by
                  simp only [Option.some.injEq] at e
                  subst e
                  exact hr1row.cap.2.2
                have hH4 := own_kept2 L3.hosts hK (by decide) (by omega) hty
                have hS4 := own_kept2 L3.stacks hK (by decide) (by omega) hty
                have hB4 : Below B0 W0 w4 := hK.low L3.below (Nat.le_refl _) (by have := L3.cs.Bw; omega) (fun g' e => by simp only [Option.some.injEq] at e; have := hr1row.lt.1; omega)
                have hsame := L3.same
                have hshort := L3.short
                have hnames := L3.names
                clear hK hty hr1row L3
                obtain ⟨ao, cp, rfl, hrd⟩ := own_read hS4
                obtain ⟨gs, rfl, lgs, hgsB, dgs⟩ := hrd k (by omega)
                simp only [List.getElem?_map, hs1, Option.map_some] at dgs
                have hrow1 : Row w4 (B0 + 2) s1 := C4.rows.own s1 (List.mem_append_left _ (List.mem_of_getElem? hs1))
                have hs1len : s1.l.length ≤ i := by rw [hsl]; exact hr1s
                have fgs : w4.frozen? ⟨gs, k, none⟩ = false := hS4.frozenAt k
                have hBw4 := C4.Bw
                have HS1 : Hid (ss[k]? = some s1) := hs1
                have HSL : Hid (s1.l = r1.l) := hsl
                have HRL : Hid (r'.l = r1.l ++ [c0]) := hrl
                have HR1 : Hid (ms[k]? = some r1) := hr1
                clear hs1 hsl hrl hr1 hrd
                go_wp2_with (at_builtin; refine wpList_append_lies _ rfl _ _ 34 rfl (B0 + 2) 31 i31 (.pointer none) 1 8 Try.underlying34 hi31 h310 h311 h312 rfl (by decide) _ _ _ rfl (World.ownsRow.alloc hrow1 _) ⟨w4.heap.size, 0, none⟩ 1 1 [.pointer (some ⟨c0, 0, none⟩)] rfl rfl (cell_one_new _ _ _) (by simp [Value.oneCell']) (by decide) ?c1 ?c2 ?c3 _ rfl ?_)
                case c1 => unfold maxLen; omega
                case c2 => omega
                case c3 => simp; omega
                intro g5 cap5 w5 hown5 hg5 hl5 _
                have hgK : w4.grownBy w5 (some s1.g) := (World.grownBy_alloc w4 _ (some s1.g)).trans hg5
                obtain ⟨_, _, cu1, hcu1⟩ := hrow1.cap
                obtain ⟨cug, hcug⟩ := own_typ hS4 (g := gs) rfl
                have hgne : gs ≠ s1.g := typ_ne hcug hcu1 (by decide)
                have d5 : w5.cell? ⟨gs, k, none⟩ = some (rowVal s1) := (hgK.cell_far ⟨gs, k, none⟩ lgs (by simpa using hgne)).trans dgs
                have f5 : w5.frozen? ⟨gs, k, none⟩ = false := (hgK.frozen_far ⟨gs, k, none⟩ lgs (by simpa using hgne)).trans fgs
                have l5 : gs < w5.heap.size := Nat.lt_of_lt_of_le lgs hgK.size
                have hr5 : Row w5 (B0 + 2) ⟨g5, cap5, s1.l ++ [c0]⟩ := by
                  unfold Row rowVal
                  simp only [List.length_append, List.length_cons, List.length_nil, ptrs, List.map_append]
                  exact hown5
                have hat5 : g5 = s1.g ∨ w4.heap.size ≤ g5 := by
                  rcases hl5 with e | e
                  · left
                    simp only [Value.ownBlock, Option.some.injEq] at e
                    exact e.symm
                  · right
                    omega
                obtain ⟨C6, hH6, hS6⟩ := restack C4 hH4 hS4 HS1.out hgK hr5 hat5
                have hB6 : Below B0 W0 (w5.setCell ⟨gs, k, none⟩ (rowVal ⟨g5, cap5, s1.l ++ [c0]⟩)) := (hB4.grown hgK (by omega) (fun k' e => by simp only [Option.some.injEq] at e; have := hrow1.lt.1; omega)).setCell (p := ⟨gs, k, none⟩) (by show B0 ≤ gs; omega) _
                have hval : (rowVal ⟨g5, cap5, s1.l ++ [c0]⟩) = Value.slice (some ⟨g5, 0, none⟩) (s1.l.length + 1) cap5 := by simp [rowVal]
                rw [hval] at hB6 C6 hH6 hS6
                clear hown5 hg5 hl5 hcu1 hcug hrow1 hr5 dgs fgs lgs hval hgK
                go_wp2_with fail
                go_roundw
                case rel =>
                  refine ⟨i + 1, n + 1, hs, ss.set k ⟨g5, cap5, s1.l ++ [c0]⟩, ms.set k r', by go_num, by omega, ⟨C6, hH6, by rw [List.length_set]; exact hS6, map_set_l _ _ _ _ _ hsame (by rw [HRL.out, ← HSL.out]), by omega, by omega, fun q hq => ?_, hnames, hB6⟩⟩
                  rcases List.mem_or_eq_of_mem_set hq with hq | rfl
                  · have := hshort q hq
                    omega
                  · rw [HRL.out, List.length_append]
                    simp
                    exact hr1s
                case measure => simp [intOf]; omega
              · go_wp2_with fail
                refine (newConn w2).mono ?_
                rintro e w3 ⟨rfl, hw3⟩
                have L3 : LI B0 W0 w3 i n hs ss ms u6 u7 := L.grow (by rw [hw3]; exact (Below.refl _ _).alloc (Nat.le_refl _) _)
                generalize w2.heap.size = c0 at *
                clear hw3 L
                go_wp2_with fail
                refine (put_new L3.cs hmx (by unfold maxLen; omega) hk c0).mono ?_
                rintro e w4 ⟨rfl, r', hrl, C4, hK⟩
                have hH4 := own_kept2 L3.hosts hK (by decide) (by omega) (fun g' e => by cases e)
                have hS4 := own_kept2 L3.stacks hK (by decide) (by omega) (fun g' e => by cases e)
                have hB4 : Below B0 W0 w4 := hK.low L3.below (Nat.le_refl _) (by have := L3.cs.Bw; omega) (fun g' e => by cases e)
                have hsame := L3.same
                have hshort := L3.short
                have hnames := L3.names
                have hBw4 := C4.Bw
                have HRL : Hid (r'.l = [c0]) := hrl
                clear hK L3 hrl
                go_wp2_with (at_builtin; refine wpList_append_own _ rfl _ _ 28 rfl (B0 + 2) 9 i9 (.string ⟨#[]⟩) 1 16 Try.underlying28 hi9 h90 h91 h92 rfl (by decide) _ _ _ rfl (hH4.alloc _) ⟨w4.heap.size, 0, none⟩ 1 1 [.string s] rfl rfl (cell_one_new _ _ _) (by simp [Value.oneCell']) ?c1 ?c2 ?c3 ?_)
                case c1 => unfold maxLen; omega
                case c2 => omega
                case c3 => simp; omega
                intro v5 w5 hH5 hg5 _
                have hgx5 : w4.grownBy w5 u6.ownBlock := (World.grownBy_alloc w4 _ u6.ownBlock).trans hg5
                have C5 := C4.other hgx5 (own_other hH4 (by decide))
                have hS5 := hS4.kept hgx5 (own_two hS4 hH4 (by decide))
                have hB5 : Below B0 W0 w5 := hB4.grown hgx5 (by omega) (fun g' e => by have := (hH4.lt g' e).1; omega)
                have hBw5 := C5.Bw
                clear hg5 hgx5 C4 hS4 hH4 hB4 hBw4
                have C6 := C5.addStack c0
                have hH6 := hH5.alloc (.cells #[ptr c0] 31)
                have hS6 := hS5.alloc (.cells #[ptr c0] 31)
                have hB6 : Below B0 W0 (w5.alloc (.cells #[ptr c0] 31)) := hB5.alloc (by omega) _
                unfold ptr at C6 hH6 hS6 hB6
                go_wp2_with (at_builtin; refine wpList_append_own _ rfl _ _ 29 rfl (B0 + 2) 34 i34 (.slice none 0 0) 1 24 Try.underlying29 hi34 h340 h341 h342 rfl (by decide) _ _ _ rfl (hS6.alloc _) ⟨w5.heap.size + 1, 0, none⟩ 1 1 [.slice (some ⟨w5.heap.size, 0, none⟩) 1 1] rfl rfl (by have := cell_one_new (w5.alloc (.cells #[.pointer (some ⟨c0, 0, none⟩)] 31)) (.slice (some ⟨w5.heap.size, 0, none⟩) 1 1) 34; simpa using this) (by simp [Value.oneCell']) ?c1 ?c2 ?c3 ?_)
                case c1 => unfold maxLen; omega
                case c2 => omega
                case c3 => simp; omega
                intro v7 w7 hS7 hg7 _
                have hgx7 : (w5.alloc (.cells #[.pointer (some ⟨c0, 0, none⟩)] 31)).grownBy w7 u7.ownBlock := (World.grownBy_alloc _ _ u7.ownBlock).trans hg7
                have C7 := C6.other hgx7 (own_other hS6 (by decide))
                have hH7 := hH6.kept hgx7 (own_two hH6 hS6 (by decide))
                have hB7 : Below B0 W0 w7 := hB6.grown hgx7 (by simp; omega) (fun g' e => by have := (hS6.lt g' e).1; omega)
                clear hg7 hgx7 C6 hH6 hS6 hB6 C5 hH5 hS5 hB5 hBw5
                go_wp2_with fail
                go_roundw
                case rel =>
                  refine ⟨i + 1, n + 1, hs ++ [s], ss ++ [⟨w5.heap.size, 1, [c0]⟩], ms ++ [r'], by go_num, by omega, ⟨C7, ?_, ?_, ?_, ?_, by omega, ?_, ?_, hB7⟩⟩
                  · rw [List.length_append, strsOf, List.map_append]
                    exact hH7
                  · rw [List.length_append, List.map_append]
                    exact hS7
                  · rw [List.map_append, List.map_append, hsame]
                    simp [HRL.out]
                  · rw [List.length_append]
                    simp
                    omega
                  · intro q hq
                    rcases List.mem_append.1 hq with hq | hq
                    · have := hshort q hq
                      omega
                    · have e : q = r' := by simpa using hq
                      rw [e, HRL.out]
                      simp
                  · intro x hx
                    rcases List.mem_append.1 hx with hx | hx
                    · exact hnames x hx
                    · have e : x = s := by simpa using hx
                      rw [e]
                      exact hss
                case measure => simp [intOf]; omega
            | false =>
              rcases hfound with ⟨k, rfl, hk⟩ | ⟨rfl, hk⟩
              · have hkl : k < hs.length := (List.getElem?_eq_some_iff.1 hk).1
                obtain ⟨s1, r1, hs1, hr1, hsl⟩ := L.rowsAt hkl
                have hr1s := L.short r1 (List.mem_of_getElem? hr1)
                have hk0 : (0 : Int) ≤ (k : Int) := by omega
                have hkS : (k : Int) < (ss.length : Int) := by omega
                rcases List.eq_nil_or_concat r1.l with hnil | ⟨l0, cl, hcl⟩
                · go_wp2_with fail
                  refine (take_nil L.cs hmx (.inr ⟨k, r1, hk, hr1, hnil⟩)).mono ?_
                  rintro e w4 ⟨rfl, C4, hK⟩
                  have hH4 := own_kept2 L.hosts hK (by decide) (by omega) (fun g' e => by cases e)
                  have hS4 := own_kept2 L.stacks hK (by decide) (by omega) (fun g' e => by cases e)
                  have hB4 : Below B0 W0 w4 := hK.low L.below (Nat.le_refl _) (by have := L.cs.Bw; omega) (fun g' e => by cases e)
                  have L4 : LI B0 W0 w4 (i + 1) n hs ss ms u6 u7 := ⟨C4, hH4, hS4, L.same, by omega, by omega, fun q hq => Nat.le_trans (L.short q hq) (by omega), L.names, hB4⟩
                  clear hK hH4 hB4 C4 L
                  obtain ⟨ao, cp, rfl, hrd⟩ := own_read hS4
                  obtain ⟨gs, rfl, lgs, hgsB, dgs⟩ := hrd k (by omega)
                  simp only [List.getElem?_map, hs1, Option.map_some] at dgs
                  have hz : s1.l.length = 0 := by rw [hsl, hnil]; rfl
                  rw [rowVal, hz] at dgs
                  have HL : Hid (LI B0 W0 w4 (i + 1) n hs ss ms u6 (.slice (some ⟨gs, 0, none⟩) ss.length cp)) := L4
                  clear hz hsl hs1 hr1 hnil hrd hS4 L4
                  go_wp2_with fail
                  go_roundw
                  case rel => exact ⟨i + 1, n, hs, ss, ms, by go_num, by omega, HL.out⟩
                  case measure => simp [intOf]; omega
                · obtain ⟨rg, rc, rl⟩ := r1
                  obtain ⟨sg, sc, sl⟩ := s1
                  have hcl' : rl = l0 ++ [cl] := by simpa using hcl
                  have hsl' : sl = rl := hsl
                  clear hcl hsl
                  subst hcl'
                  subst hsl'
                  have hr1t : l0.length + 1 ≤ i := by simpa using hr1s
                  clear hr1s
                  go_wp2_with fail
                  refine (take_last L.cs hmx (by unfold maxLen; omega) hk hr1 (by omega)).mono ?_
                  rintro e w4 ⟨rfl, C4, hK⟩
                  have hH4 := own_kept2 L.hosts hK (by decide) (by omega) (fun g' e => by cases e)
                  have hS4 := own_kept2 L.stacks hK (by decide) (by omega) (fun g' e => by cases e)
                  have hB4 : Below B0 W0 w4 := hK.low L.below (Nat.le_refl _) (by have := L.cs.Bw; omega) (fun g' e => by cases e)
                  have hsame := L.same
                  have hshort := L.short
                  have hnames := L.names
                  clear hK L
                  unfold ptr
                  obtain ⟨ao, cp, rfl, hrd⟩ := own_read hS4
                  obtain ⟨gs, rfl, lgs, hgsB, dgs⟩ := hrd k (by omega)
                  simp only [List.getElem?_map, hs1, Option.map_some, rowVal, List.length_append, List.length_cons, List.length_nil] at dgs
                  have hrow1 : Row w4 (B0 + 2) ⟨sg, sc, l0 ++ [cl]⟩ := C4.rows.own _ (List.mem_append_left _ (List.mem_of_getElem? hs1))
                  have dsg : w4.cell? ⟨sg, l0.length, none⟩ = some (.pointer (some ⟨cl, 0, none⟩)) := hrow1.cell (by simp)
                  have lsg : sg < w4.heap.size := hrow1.lt.2
                  have hcap := hrow1.cap.1
                  simp only [List.length_append, List.length_cons, List.length_nil] at hcap
                  have fgs : w4.frozen? ⟨gs, k, none⟩ = false := hS4.frozenAt k
                  have HC : Hid (Cs (B0 + 2) (B0 + 1) B0 w4 (n + 1) hs ss (ms.set k ⟨rg, rc, l0⟩)) := C4
                  have HH : Hid (w4.ownsRow (B0 + 2) 9 1 u6 hs.length (strsOf hs)) := hH4
                  have HST : Hid (w4.ownsRow (B0 + 2) 34 1 (.slice (some ⟨gs, 0, none⟩) ss.length cp) ss.length (ss.map rowVal)) := hS4
                  have HS1 : Hid (ss[k]? = some ⟨sg, sc, l0 ++ [cl]⟩) := hs1
                  have HRW : Hid (Row w4 (B0 + 2) ⟨sg, sc, l0⟩) := hrow1.pop
                  clear hrd hs1 hr1 C4 hH4 hS4 hrow1
                  have q0 : (0 : Int) ≤ (l0.length : Int) := by omega
                  have q1 : ((l0.length : Int) + 1 == 0) = false := beq_eq_false_iff_ne.2 (by omega)
                  have q2 : (l0.length : Int) ≤ (sc : Int) := by omega
                  go_wp2_with fail
                  go_quiet (fail)
                  go_wp2_with fail
                  have X1 : (w4.drewN nq).cell? ⟨gs, k, none⟩ = some (.slice (some ⟨sg, 0, none⟩) (l0.length + 1) sc) := dgs
                  have X2 : (w4.drewN nq).frozen? ⟨gs, k, none⟩ = false := fgs
                  have X3 : gs < (w4.drewN nq).heap.size := lgs
                  have X4 : Hid (Cs (B0 + 2) (B0 + 1) B0 (w4.drewN nq) (n + 1) hs ss (ms.set k ⟨rg, rc, l0⟩)) := HC.out.keep (fun _ _ => rfl) (Nat.le_refl _)
                  have X5 : Hid ((w4.drewN nq).ownsRow (B0 + 2) 9 1 u6 hs.length (strsOf hs)) := HH
                  have X6 : Hid ((w4.drewN nq).ownsRow (B0 + 2) 34 1 (.slice (some ⟨gs, 0, none⟩) ss.length cp) ss.length (ss.map rowVal)) := HST
                  have X7 : Hid (Row (w4.drewN nq) (B0 + 2) ⟨sg, sc, l0⟩) := HRW
                  have X8 : Hid (Below B0 W0 (w4.drewN nq)) := (⟨hB4.os, hB4.tape, hB4.output, hB4.size, hB4.block⟩ : Below B0 W0 (w4.drewN nq))
                  clear dgs fgs lgs HC HH HST HRW hB4 dsg lsg
                  generalize w4.drewN nq = W5 at *
                  have hwr : IntKind.i64.wrap (l0.length : Int) = (l0.length : Int) := by simp [IntKind.wrap, IntKind.signed, IntKind.bits]; omega
                  refine region_L (S := fun w' => w'.cell? ⟨gs, k, none⟩ = some (.slice (some ⟨sg, 0, none⟩) (l0.length + 1) sc)) (last := 14) (by kernel_rfl) ?_
                  have hS : W5.drew.cell? ⟨gs, k, none⟩ = some (.slice (some ⟨sg, 0, none⟩) (l0.length + 1) sc) := X1
                  refine L_take (i := 0) (v := ?v0) rfl (by kernel_rfl) (fun _ _ _ h => h) hS (Or.inl ⟨by rfl, ?y0⟩) ?r0
                  case y0 => intro w' hSw; go_simp; try with_reducible rfl
                  simp only [Act.put, List.setIfInBounds_toArray, List.set_cons_zero, List.set_cons_succ]
                  refine L_take (i := 1) (v := ?v1) rfl (by kernel_rfl) (fun _ _ _ h => h) hS (Or.inl ⟨by rfl, ?y1⟩) ?r1
                  case y1 => intro w' hSw; go_simp; try with_reducible rfl
                  simp only [Act.put, List.setIfInBounds_toArray, List.set_cons_zero, List.set_cons_succ]
                  refine L_take (i := 2) (v := ?v2) rfl (by kernel_rfl) (fun _ _ _ h => h) hS (Or.inl ⟨by rfl, ?y2⟩) ?r2
                  case y2 => intro w' hSw; go_simp; try with_reducible rfl
                  simp only [Act.put, List.setIfInBounds_toArray, List.set_cons_zero, List.set_cons_succ]
                  refine L_take (i := 3) (v := ?v3) rfl (by kernel_rfl) (fun _ _ _ h => h) hS (Or.inl ⟨by rfl, ?y3⟩) ?r3
                  case y3 => intro w' hSw; go_simp; try with_reducible rfl
                  simp only [Act.put, List.setIfInBounds_toArray, List.set_cons_zero, List.set_cons_succ]
                  refine L_take (i := 4) (v := ?v4) rfl (by kernel_rfl) (fun _ _ _ h => h) hS (Or.inl ⟨by rfl, ?y4⟩) ?r4
                  case y4 => intro w' hSw; go_simp; try with_reducible rfl
                  simp only [Act.put, List.setIfInBounds_toArray, List.set_cons_zero, List.set_cons_succ]
                  refine L_take (i := 5) (v := ?v5) rfl (by kernel_rfl) (fun _ _ _ h => h) hS (Or.inl ⟨by rfl, ?y5⟩) ?r5
                  case y5 => intro w' hSw; go_simp; try with_reducible rfl
                  simp only [Act.put, List.setIfInBounds_toArray, List.set_cons_zero, List.set_cons_succ]
                  refine L_take (i := 6) (v := ?v6) rfl (by kernel_rfl) (fun _ _ _ h => h) hS (Or.inl ⟨by rfl, ?y6⟩) ?r6
                  case y6 => intro w' hSw; go_simp; try with_reducible rfl
                  simp only [Act.put, List.setIfInBounds_toArray, List.set_cons_zero, List.set_cons_succ]
                  refine L_take (i := 7) (v := ?v7) rfl (by kernel_rfl) (fun _ _ _ h => h) hS (Or.inl ⟨by rfl, ?y7⟩) ?r7
                  case y7 => intro w' hSw; go_simp; try with_reducible rfl
                  simp only [Act.put, List.setIfInBounds_toArray, List.set_cons_zero, List.set_cons_succ]
                  refine L_take (i := 8) (v := ?v8) rfl (by kernel_rfl) (fun _ _ _ h => h) hS (Or.inl ⟨by rfl, ?y8⟩) ?r8
                  case y8 => intro w' hSw; go_simp; try with_reducible rfl
                  simp only [Act.put, List.setIfInBounds_toArray, List.set_cons_zero, List.set_cons_succ]
                  refine L_take (i := 9) (v := ?v9) rfl (by kernel_rfl) (fun _ _ _ h => h) hS (Or.inl ⟨by rfl, ?y9⟩) ?r9
                  case y9 => intro w' hSw; go_simp; try with_reducible rfl
                  simp only [Act.put, List.setIfInBounds_toArray, List.set_cons_zero, List.set_cons_succ]
                  refine L_take (i := 10) (v := ?v10) rfl (by kernel_rfl) (fun _ _ _ h => h) hS (Or.inl ⟨by rfl, ?y10⟩) ?r10
                  case y10 => intro w' hSw; go_simp; try with_reducible rfl
                  simp only [Act.put, List.setIfInBounds_toArray, List.set_cons_zero, List.set_cons_succ]
                  refine L_take (i := 11) (v := ?v11) rfl (by kernel_rfl) (fun _ _ _ h => h) hS (Or.inl ⟨by rfl, ?y11⟩) ?r11
                  case y11 => intro w' hSw; go_simp; try with_reducible rfl
                  simp only [Act.put, List.setIfInBounds_toArray, List.set_cons_zero, List.set_cons_succ]
                  refine L_take (i := 12) (v := ?v12) rfl (by kernel_rfl) (fun _ _ _ h => h) hS (Or.inl ⟨by rfl, ?y12⟩) ?r12
                  case y12 => intro w' hSw; go_simp; try with_reducible rfl
                  simp only [Act.put, List.setIfInBounds_toArray, List.set_cons_zero, List.set_cons_succ]
                  refine L_take (i := 13) (v := ?v13) rfl (by kernel_rfl) (fun _ _ _ h => h) hS (Or.inl ⟨by rfl, ?y13⟩) ?r13
                  case y13 => intro w' hSw; go_simp; try with_reducible rfl
                  simp only [Act.put, List.setIfInBounds_toArray, List.set_cons_zero, List.set_cons_succ]
                  refine L_only (i := 14) (by kernel_rfl) rfl rfl (fun K hK => ?_)
                  go_simp
                  refine hK _ _ (fun h => absurd rfl h) ?_
                  clear hK K
                  refine L_done (by kernel_rfl) ?_ _
                  obtain ⟨C6, hH6, hS6⟩ := restack (w3 := W5.drew) (s' := ⟨sg, sc, l0⟩) X4.out X5.out X6.out HS1.out ⟨rfl, rfl, rfl, Nat.le_refl _, fun _ _ _ => rfl⟩ (show Row W5.drew (B0 + 2) ⟨sg, sc, l0⟩ from X7.out) (.inl rfl)
                  have hB6 : Below B0 W0 (W5.drew.setCell ⟨gs, k, none⟩ (rowVal ⟨sg, sc, l0⟩)) := (X8.out.drew).setCell (p := ⟨gs, k, none⟩) (by show B0 ≤ gs; omega) _
                  have L6 : LI B0 W0 (W5.drew.setCell ⟨gs, k, none⟩ (rowVal ⟨sg, sc, l0⟩)) (i + 1) (n + 1) hs (ss.set k ⟨sg, sc, l0⟩) (ms.set k ⟨rg, rc, l0⟩) u6 (.slice (some ⟨gs, 0, none⟩) ss.length cp) := by
                    refine ⟨C6, hH6, by rw [List.length_set]; exact hS6, map_set_l _ _ _ _ _ hsame rfl, by omega, by omega, fun q hq => ?_, hnames, hB6⟩
                    rcases List.mem_or_eq_of_mem_set hq with hq | rfl
                    · have := hshort q hq
                      omega
                    · show l0.length ≤ i + 1
                      omega
                  clear C6 hH6 hS6 hB6 X4 X5 X6 X7 X8 hS X1 X2 X3 HS1 hsame hshort hnames
                  have hns := neq_same cl
                  go_wp2_with fail
                  go_roundw
                  case rel => exact ⟨i + 1, n + 1, hs, _, _, by go_num, by omega, L6⟩
                  case measure => simp [intOf]; omega
              · go_wp2_with fail
                refine (take_nil L.cs hmx (.inl hk)).mono ?_
                rintro e w4 ⟨rfl, C4, hK⟩
                have hH4 := own_kept2 L.hosts hK (by decide) (by omega) (fun g' e => by cases e)
                have hS4 := own_kept2 L.stacks hK (by decide) (by omega) (fun g' e => by cases e)
                have hB4 : Below B0 W0 w4 := hK.low L.below (Nat.le_refl _) (by have := L.cs.Bw; omega) (fun g' e => by cases e)
                have L4 : LI B0 W0 w4 (i + 1) n hs ss ms u6 u7 := ⟨C4, hH4, hS4, L.same, by omega, by omega, fun q hq => Nat.le_trans (L.short q hq) (by omega), L.names, hB4⟩
                clear hK hH4 hS4 hB4 C4 L
                go_wp2_with fail
                go_roundw
                case rel => exact ⟨i + 1, n, hs, ss, ms, by go_num, by omega, L4⟩
                case measure => simp [intOf]; omega
          · have D0 := DI.start L (by omega)
            clear L hi hfew hnum lss1 lss2 lms1 lms2 h hfit
            go_wp2_with fail
            go_loopw [14] (fun kv wj => ∃ (k n : Nat) (ss ms : List Rw), kv = .int .i64 k ∧ k ≤ hs.length ∧ DI B0 W0 wj n hs ss ms u6 u7) (fun kv _ => hs.length - (intOf kv).toNat)
            case atStart => exact ⟨0, n, ss, ms, rfl, Nat.zero_le _, D0⟩
            case round =>
              clear D0
              obtain ⟨k, n0, ss0, ms0, rfl, hk, D⟩ := hrel
              obtain ⟨ah, ch, hu6, hrdh⟩ := own_read D.hosts
              subst hu6
              by_cases hlt : (k : Int) < (hs.length : Int)
              · obtain ⟨lss0, lms0⟩ := D.lens
                obtain ⟨hn, hhn⟩ : ∃ x, hs[k]? = some x := ⟨hs[k]'(by omega), List.getElem?_eq_getElem _⟩
                obtain ⟨av, cv, hu7, hrds⟩ := own_read D.stacks
                subst hu7
                obtain ⟨gs, rfl, lgs, hgsB, jgs⟩ := hrds k (by omega)
                obtain ⟨gh, rfl, lgh, hghB, jgh⟩ := hrdh k (by omega)
                clear jgs jgh
                obtain ⟨N, hN⟩ : ∃ N, ss0.length = N := ⟨_, rfl⟩
                rw [hN] at D lss0 ⊢
                have hkN : (k : Int) < (N : Int) := by omega
                have hkN2 : k < N := by omega
                have hk4 : k + 1 ≤ hs.length := by omega
                have hfew0 := D.few
                have hk0 : (0 : Int) ≤ (k : Int) := by omega
                have hsz := D.names hn (List.mem_of_getElem? hhn)
                have hmx : hn.size ≤ maxLen := by unfold maxLen; omega
                have hNh : Hid (N = hs.length) := lss0
                have HN : Hid (hs[k]? = some hn) := hhn
                have D1 : ∃ (n : Nat) (ss' ms' : List Rw), ss'.length = N ∧ DI B0 W0 wr n hs ss' ms' (.slice (some ⟨gh, 0, none⟩) hs.length ch) (.slice (some ⟨gs, 0, none⟩) N cv) := ⟨n0, ss0, ms0, hN, D⟩
                clear D hN hhn lss0 lms0 hrds hrdh lgs lgh
                go_wp2_with fail
                go_loopw [15] (fun _ wj => ∃ (n : Nat) (ss ms : List Rw), ss.length = N ∧ DI B0 W0 wj n hs ss ms (.slice (some ⟨gh, 0, none⟩) hs.length ch) (.slice (some ⟨gs, 0, none⟩) N cv)) (fun _ wj => lenAt wj gs k)
                case atStart => exact D1
                case round =>
                  clear D1
                  obtain ⟨n, ss, ms, hN, D⟩ := hrel
                  obtain ⟨s1, r1, hs1, hr1, hsl⟩ := D.rowsAt (k := k) (by rw [← hNh.out]; exact hkN2)
                  have hr1s := D.short r1 (List.mem_of_getElem? hr1)
                  have hnum := D.num
                  have dgh := (own_at D.hosts (k := k) (by rw [← hNh.out]; exact hkN2)).trans (strs_at HN.out)
                  have lgh := D.hosts.lt gh rfl
                  have dgs := own_at (k := k) (show World.ownsRow _ (B0 + 2) 34 1 (.slice (some ⟨gs, 0, none⟩) N cv) N (ss.map rowVal) by have := D.stacks; rwa [hN] at this) hkN2
                  simp only [List.getElem?_map, hs1, Option.map_some] at dgs
                  have lgs := D.stacks.lt gs rfl
                  rcases List.eq_nil_or_concat r1.l with hnil | ⟨l0, cl, hcl⟩
                  · have hz : s1.l.length = 0 := by rw [hsl, hnil]; rfl
                    rw [rowVal, hz] at dgs
                    have HNil : Hid (r1.l = []) := hnil
                    have HR1 : Hid (ms[k]? = some r1) := hr1
                    have HD : Hid (ss.length = N ∧ DI B0 W0 wr n hs ss ms (.slice (some ⟨gh, 0, none⟩) hs.length ch) (.slice (some ⟨gs, 0, none⟩) N cv)) := ⟨hN, D⟩
                    clear hz hsl hs1 hr1 hnil hN D
                    go_wp2_with fail
                    refine (take_nil HD.out.2.cs hmx (.inr ⟨k, r1, HN.out, HR1.out, HNil.out⟩)).mono ?_
                    rintro e w4 ⟨rfl, C4, hK⟩
                    have hH4 := own_kept2 HD.out.2.hosts hK (by decide) (by omega) (fun g' e => by cases e)
                    have hS4 := own_kept2 HD.out.2.stacks hK (by decide) (by omega) (fun g' e => by cases e)
                    have hB4 : Below B0 W0 w4 := hK.low HD.out.2.below (Nat.le_refl _) (by have := HD.out.2.cs.Bw; omega) (fun g' e => by cases e)
                    have D4 : Hid (DI B0 W0 w4 n hs ss ms (.slice (some ⟨gh, 0, none⟩) hs.length ch) (.slice (some ⟨gs, 0, none⟩) N cv)) := (⟨C4, hH4, hS4, HD.out.2.same, HD.out.2.few, HD.out.2.num, HD.out.2.short, HD.out.2.names, hB4⟩ : DI B0 W0 w4 n hs ss ms (.slice (some ⟨gh, 0, none⟩) hs.length ch) (.slice (some ⟨gs, 0, none⟩) N cv))
                    clear hK hH4 hS4 hB4 C4 HD dgh dgs lgh lgs
                    go_wp2_with fail
                    go_roundw
                    case rel => exact ⟨k + 1, n, ss, ms, by go_num, by omega, D4.out⟩
                    case measure => simp [intOf]; omega
                  · obtain ⟨rg, rc, rl⟩ := r1
                    obtain ⟨sg, sc, sl⟩ := s1
                    have hcl' : rl = l0 ++ [cl] := by simpa using hcl
                    have hsl' : sl = rl := hsl
                    clear hcl hsl
                    subst hcl'
                    subst hsl'
                    have hr1t : l0.length + 1 ≤ 4096 := by simpa using hr1s
                    clear hr1s
                    simp only [rowVal, List.length_append, List.length_cons, List.length_nil] at dgs
                    have hrow1 : Row wr (B0 + 2) ⟨sg, sc, l0 ++ [cl]⟩ := D.cs.rows.own _ (List.mem_append_left _ (List.mem_of_getElem? hs1))
                    have dsg : wr.cell? ⟨sg, l0.length, none⟩ = some (.pointer (some ⟨cl, 0, none⟩)) := hrow1.cell (by simp)
                    have lsg : sg < wr.heap.size := hrow1.lt.2
                    have hcap := hrow1.cap.1
                    simp only [List.length_append, List.length_cons, List.length_nil] at hcap
                    have HC : Hid (Cs (B0 + 2) (B0 + 1) B0 wr n hs ss ms) := D.cs
                    have HH : Hid (wr.ownsRow (B0 + 2) 9 1 (.slice (some ⟨gh, 0, none⟩) hs.length ch) hs.length (strsOf hs)) := D.hosts
                    have HST : Hid (wr.ownsRow (B0 + 2) 34 1 (.slice (some ⟨gs, 0, none⟩) ss.length cv) ss.length (ss.map rowVal)) := by
                      have := D.stacks
                      rw [← hN] at this
                      exact this
                    have fgs : wr.frozen? ⟨gs, k, none⟩ = false := HST.out.frozenAt k
                    have HS1 : Hid (ss[k]? = some ⟨sg, sc, l0 ++ [cl]⟩) := hs1
                    have HR1 : Hid (ms[k]? = some ⟨rg, rc, l0 ++ [cl]⟩) := hr1
                    have HRW : Hid (Row wr (B0 + 2) ⟨sg, sc, l0⟩) := hrow1.pop
                    have HNS : Hid (ss.length = N) := hN
                    have hsame := D.same
                    have hfew := D.few
                    have hshort := D.short
                    have hnames := D.names
                    have hB4 := D.below
                    have hmeas : Hid (lenAt wr gs k = l0.length + 1) := lenAt_of dgs
                    have hpos : (0 : Int) < (l0.length : Int) + 1 := by omega
                    have q0 : (0 : Int) ≤ (l0.length : Int) := by omega
                    have q1 : ((l0.length : Int) + 1 == 0) = false := beq_eq_false_iff_ne.2 (by omega)
                    have q2 : (l0.length : Int) ≤ (sc : Int) := by omega
                    clear hN hs1 hr1 hrow1 D dgh lgh
                    have lgs2 := lgs.2
                    clear lgs
                    go_wp2_with fail
                    go_quiet (fail)
                    go_wp2_with fail
                    have X1 : (wr.drewN nq).cell? ⟨gs, k, none⟩ = some (.slice (some ⟨sg, 0, none⟩) (l0.length + 1) sc) := dgs
                    have X2 : (wr.drewN nq).frozen? ⟨gs, k, none⟩ = false := fgs
                    have X3 : gs < (wr.drewN nq).heap.size := lgs2
                    have X4 : Hid (Cs (B0 + 2) (B0 + 1) B0 (wr.drewN nq) n hs ss ms) := HC.out.keep (fun _ _ => rfl) (Nat.le_refl _)
                    have X5 : Hid ((wr.drewN nq).ownsRow (B0 + 2) 9 1 (.slice (some ⟨gh, 0, none⟩) hs.length ch) hs.length (strsOf hs)) := HH
                    have X6 : Hid ((wr.drewN nq).ownsRow (B0 + 2) 34 1 (.slice (some ⟨gs, 0, none⟩) ss.length cv) ss.length (ss.map rowVal)) := HST
                    have X7 : Hid (Row (wr.drewN nq) (B0 + 2) ⟨sg, sc, l0⟩) := HRW
                    have X8 : Hid (Below B0 W0 (wr.drewN nq)) := (⟨hB4.os, hB4.tape, hB4.output, hB4.size, hB4.block⟩ : Below B0 W0 (wr.drewN nq))
                    clear dgs fgs lgs2 HC HH HST HRW hB4 dsg lsg
                    generalize wr.drewN nq = W5 at X1 X2 X3 X4 X5 X6 X7 X8 ⊢
                    have hwr : IntKind.i64.wrap (l0.length : Int) = (l0.length : Int) := by simp [IntKind.wrap, IntKind.signed, IntKind.bits]; omega
                    refine region_L (S := fun w' => w'.cell? ⟨gs, k, none⟩ = some (.slice (some ⟨sg, 0, none⟩) (l0.length + 1) sc)) (last := 14) (by kernel_rfl) ?_
                    have hS : W5.drew.cell? ⟨gs, k, none⟩ = some (.slice (some ⟨sg, 0, none⟩) (l0.length + 1) sc) := X1
                    refine L_take (i := 0) (v := ?vd0) rfl (by kernel_rfl) (fun _ _ _ h => h) hS (Or.inl ⟨by rfl, ?yd0⟩) ?rd0
                    case yd0 => intro w' hSw; go_simp; try with_reducible rfl
                    simp only [Act.put, List.setIfInBounds_toArray, List.set_cons_zero, List.set_cons_succ]
                    refine L_take (i := 1) (v := ?vd1) rfl (by kernel_rfl) (fun _ _ _ h => h) hS (Or.inl ⟨by rfl, ?yd1⟩) ?rd1
                    case yd1 => intro w' hSw; go_simp; try with_reducible rfl
                    simp only [Act.put, List.setIfInBounds_toArray, List.set_cons_zero, List.set_cons_succ]
                    refine L_take (i := 2) (v := ?vd2) rfl (by kernel_rfl) (fun _ _ _ h => h) hS (Or.inl ⟨by rfl, ?yd2⟩) ?rd2
                    case yd2 => intro w' hSw; go_simp; try with_reducible rfl
                    simp only [Act.put, List.setIfInBounds_toArray, List.set_cons_zero, List.set_cons_succ]
                    refine L_take (i := 3) (v := ?vd3) rfl (by kernel_rfl) (fun _ _ _ h => h) hS (Or.inl ⟨by rfl, ?yd3⟩) ?rd3
                    case yd3 => intro w' hSw; go_simp; try with_reducible rfl
                    simp only [Act.put, List.setIfInBounds_toArray, List.set_cons_zero, List.set_cons_succ]
                    refine L_take (i := 4) (v := ?vd4) rfl (by kernel_rfl) (fun _ _ _ h => h) hS (Or.inl ⟨by rfl, ?yd4⟩) ?rd4
                    case yd4 => intro w' hSw; go_simp; try with_reducible rfl
                    simp only [Act.put, List.setIfInBounds_toArray, List.set_cons_zero, List.set_cons_succ]
                    refine L_take (i := 5) (v := ?vd5) rfl (by kernel_rfl) (fun _ _ _ h => h) hS (Or.inl ⟨by rfl, ?yd5⟩) ?rd5
                    case yd5 => intro w' hSw; go_simp; try with_reducible rfl
                    simp only [Act.put, List.setIfInBounds_toArray, List.set_cons_zero, List.set_cons_succ]
                    refine L_take (i := 6) (v := ?vd6) rfl (by kernel_rfl) (fun _ _ _ h => h) hS (Or.inl ⟨by rfl, ?yd6⟩) ?rd6
                    case yd6 => intro w' hSw; go_simp; try with_reducible rfl
                    simp only [Act.put, List.setIfInBounds_toArray, List.set_cons_zero, List.set_cons_succ]
                    refine L_take (i := 7) (v := ?vd7) rfl (by kernel_rfl) (fun _ _ _ h => h) hS (Or.inl ⟨by rfl, ?yd7⟩) ?rd7
                    case yd7 => intro w' hSw; go_simp; try with_reducible rfl
                    simp only [Act.put, List.setIfInBounds_toArray, List.set_cons_zero, List.set_cons_succ]
                    refine L_take (i := 8) (v := ?vd8) rfl (by kernel_rfl) (fun _ _ _ h => h) hS (Or.inl ⟨by rfl, ?yd8⟩) ?rd8
                    case yd8 => intro w' hSw; go_simp; try with_reducible rfl
                    simp only [Act.put, List.setIfInBounds_toArray, List.set_cons_zero, List.set_cons_succ]
                    refine L_take (i := 9) (v := ?vd9) rfl (by kernel_rfl) (fun _ _ _ h => h) hS (Or.inl ⟨by rfl, ?yd9⟩) ?rd9
                    case yd9 => intro w' hSw; go_simp; try with_reducible rfl
                    simp only [Act.put, List.setIfInBounds_toArray, List.set_cons_zero, List.set_cons_succ]
                    refine L_take (i := 10) (v := ?vd10) rfl (by kernel_rfl) (fun _ _ _ h => h) hS (Or.inl ⟨by rfl, ?yd10⟩) ?rd10
                    case yd10 => intro w' hSw; go_simp; try with_reducible rfl
                    simp only [Act.put, List.setIfInBounds_toArray, List.set_cons_zero, List.set_cons_succ]
                    refine L_take (i := 11) (v := ?vd11) rfl (by kernel_rfl) (fun _ _ _ h => h) hS (Or.inl ⟨by rfl, ?yd11⟩) ?rd11
                    case yd11 => intro w' hSw; go_simp; try with_reducible rfl
                    simp only [Act.put, List.setIfInBounds_toArray, List.set_cons_zero, List.set_cons_succ]
                    refine L_take (i := 12) (v := ?vd12) rfl (by kernel_rfl) (fun _ _ _ h => h) hS (Or.inl ⟨by rfl, ?yd12⟩) ?rd12
                    case yd12 => intro w' hSw; go_simp; try with_reducible rfl
                    simp only [Act.put, List.setIfInBounds_toArray, List.set_cons_zero, List.set_cons_succ]
                    refine L_take (i := 13) (v := ?vd13) rfl (by kernel_rfl) (fun _ _ _ h => h) hS (Or.inl ⟨by rfl, ?yd13⟩) ?rd13
                    case yd13 => intro w' hSw; go_simp; try with_reducible rfl
                    simp only [Act.put, List.setIfInBounds_toArray, List.set_cons_zero, List.set_cons_succ]
                    refine L_only (i := 14) (by kernel_rfl) rfl rfl (fun K hK => ?_)
                    go_simp
                    refine hK _ _ (fun h => absurd rfl h) ?_
                    clear hK K
                    refine L_done (by kernel_rfl) ?_ _
                    obtain ⟨C6, hH6, hS6⟩ := restack (w3 := W5.drew) (s' := ⟨sg, sc, l0⟩) X4.out X5.out X6.out HS1.out ⟨rfl, rfl, rfl, Nat.le_refl _, fun _ _ _ => rfl⟩ (show Row W5.drew (B0 + 2) ⟨sg, sc, l0⟩ from X7.out) (.inl rfl)
                    have hB6 : Below B0 W0 (W5.drew.setCell ⟨gs, k, none⟩ (rowVal ⟨sg, sc, l0⟩)) := (X8.out.drew).setCell (p := ⟨gs, k, none⟩) (by show B0 ≤ gs; omega) _
                    have e7 : (rowVal ⟨sg, sc, l0⟩) = Value.slice (some ⟨sg, 0, none⟩) l0.length sc := rfl
                    rw [e7] at C6 hH6 hS6 hB6
                    clear X4 X5 X6 X7 X8 hS X1 X2 X3 e7
                    have hcomm : W5.drew.setCell ⟨gs, k, none⟩ (Value.slice (some ⟨sg, 0, none⟩) l0.length sc) = (W5.setCell ⟨gs, k, none⟩ (Value.slice (some ⟨sg, 0, none⟩) l0.length sc)).drew := rfl
                    rw [hcomm] at C6 hH6 hS6 hB6
                    clear hcomm
                    generalize (W5.setCell ⟨gs, k, none⟩ (Value.slice (some ⟨sg, 0, none⟩) l0.length sc)).drew = W6 at C6 hH6 hS6 hB6 ⊢
                    have dgh := (own_at hH6 (k := k) (by rw [← hNh.out]; exact hkN2)).trans (strs_at HN.out)
                    have lgh := (hH6.lt gh rfl).2
                    clear hwr
                    have HC6 : Hid (Cs (B0 + 2) (B0 + 1) B0 W6 n hs (ss.set k ⟨sg, sc, l0⟩) ms) := C6
                    have HH6 : Hid (W6.ownsRow (B0 + 2) 9 1 (.slice (some ⟨gh, 0, none⟩) hs.length ch) hs.length (strsOf hs)) := hH6
                    have HS6 : Hid (W6.ownsRow (B0 + 2) 34 1 (.slice (some ⟨gs, 0, none⟩) ss.length cv) ss.length ((ss.set k ⟨sg, sc, l0⟩).map rowVal)) := hS6
                    have hBw6 := C6.Bw
                    clear C6 hH6 hS6
                    go_wp2_with fail
                    refine (take_last HC6.out hmx (by unfold maxLen; omega) HN.out HR1.out (by omega)).mono ?_
                    rintro e w7 ⟨rfl, C7, hK⟩
                    have hH7 := own_kept2 HH6.out hK (by decide) (by omega) (fun g' e => by cases e)
                    have hS7 := own_kept2 HS6.out hK (by decide) (by omega) (fun g' e => by cases e)
                    have hB7 : Below B0 W0 w7 := hK.low hB6 (Nat.le_refl _) (by omega) (fun g' e => by cases e)
                    have hkS : k < ss.length := by rw [HNS.out]; exact hkN2
                    have hm7 : Hid (lenAt w7 gs k = l0.length) := by
                      have h1 := own_at (k := k) hS7 hkS
                      rw [List.getElem?_map, List.getElem?_set_self hkS] at h1
                      exact lenAt_of h1
                    have D7 : Hid (DI B0 W0 w7 (n + 1) hs (ss.set k ⟨sg, sc, l0⟩) (ms.set k ⟨rg, rc, l0⟩) (.slice (some ⟨gh, 0, none⟩) hs.length ch) (.slice (some ⟨gs, 0, none⟩) N cv)) := by
                      have ht := tot_set (r' := ⟨rg, rc, l0⟩) HR1.out (by simp)
                      refine (⟨C7, hH7, by rw [List.length_set, ← HNS.out]; exact hS7, map_set_l _ _ _ _ _ hsame rfl, hfew, by omega, fun q hq => ?_, hnames, hB7⟩ : DI B0 W0 w7 (n + 1) hs (ss.set k ⟨sg, sc, l0⟩) (ms.set k ⟨rg, rc, l0⟩) (.slice (some ⟨gh, 0, none⟩) hs.length ch) (.slice (some ⟨gs, 0, none⟩) N cv))
                      rcases List.mem_or_eq_of_mem_set hq with hq | rfl
                      · exact hshort q hq
                      · show l0.length ≤ 4096
                        omega
                    have hlen7 : Hid ((ss.set k ⟨sg, sc, l0⟩).length = N) := by
                      show (ss.set k ⟨sg, sc, l0⟩).length = N
                      rw [List.length_set]
                      exact HNS.out
                    clear C7 hH7 hS7 hB7 HC6 HH6 HS6 hB6 hK hkS dgh lgh hsame hshort hnames HR1 HS1
                    unfold ptr
                    have hns := neq_same cl
                    go_wp2_with fail
                    go_roundw
                    case rel => exact ⟨n + 1, _, _, hlen7.out, D7.out⟩
                    case measure =>
                      rw [hmeas.out, hm7.out]
                      omega
              · go_wp2_with fail
                go_ret
                have hend := D.below
                rw [← HB0.out, HW0.out] at hend
                exact ⟨rfl, hend⟩
end Go.Proofs.Qxb6612394a
