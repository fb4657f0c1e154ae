import Derived.Test.Qxb6612485aFmtRows3
import Derived.Test.Qxb6612485aFmtWalk
namespace Go.Proofs.Qxb6612485aFmt
open Go.RowKit

theorem results_tmp4 {fn : Func} {t u v x : Tmp} (h : fn.results = #[.tmp t, .tmp u, .tmp v, .tmp x]) (tmps : Array Value) (P : Program) (w : World) :
    (results fn tmps).run P w = .ok (.tuple #[tmps.getD t undef, tmps.getD u undef, tmps.getD v undef, tmps.getD x undef]) w := by
  simp [results, h]

abbrev fromOf (o : Opt) : Nat := o.2.1
abbrev toOf (o : Opt) : Nat := o.2.1 + o.2.2

set_option maxRecDepth 100000 in
set_option maxHeartbeats 4000000 in
theorem machine_any (a : Option Addr) (xs : List Int) (cap : Nat) (st en : Int) (w : World) (hr : Rd w w.heap.size a xs) (hst : 0 ≤ st) (hen : en ≤ xs.length) :
    Calls Tryf.prog 8 #[.slice a xs.length cap, .int .i64 st, .int .i64 en] w fun e w' => ∃ vc vf vt, e = .returned (.tuple #[vc, vf, vt, .bool (spec xs en.toNat st.toNat).2]) ∧
      M3 w.heap.size w' vc vf vt (spec xs en.toNat st.toNat).1.length (spec xs en.toNat st.toNat).1.length (spec xs en.toNat st.toNat).1.length ((spec xs en.toNat st.toNat).1.map fun o => o.1) ((spec xs en.toNat st.toNat).1.map fromOf) ((spec xs en.toNat st.toNat).1.map toOf) ∧ Below w.heap.size w w' := by
  obtain ⟨i5, hi5, h50, h51, h52⟩ := info_parts info5
  obtain ⟨i3, hi3, h30, h31, h32⟩ := info_parts info3
  obtain ⟨n, hn⟩ : ∃ n : Nat, en.toNat = n := ⟨_, rfl⟩
  obtain ⟨s, rfl⟩ : ∃ s : Nat, st = s := ⟨st.toNat, by omega⟩
  simp only [Int.toNat_natCast, hn]
  have hfew := spec_few xs n s
  have hsm := hr.small
  generalize hT : spec xs n s = T at *
  go_enter Tryf.func8, Tryf.ntmps8
  go_wp2_with fail
  go_loopw [10, 11, 12, 13, 14, 15, 16, 17] (fun vc vf vt sv cv lv fv iv wr => ∃ (p : Nat) (done : List Opt) (c' f' t' : Value) (s1 c1 l1 f1 : Int), vc = c' ∧ vf = f' ∧ vt = t' ∧ sv = .int .i64 s1 ∧ cv = .int .u8 c1 ∧ lv = .int .i64 l1 ∧ fv = .int .i64 f1 ∧ iv = .int .i64 p ∧
      M3 w.heap.size wr c' f' t' done.length done.length done.length (done.map fun o => o.1) (done.map fromOf) (done.map toOf) ∧ Below w.heap.size w wr ∧ MS xs n T done p s1 c1 l1 f1) (fun _ _ _ _ _ _ _ iv _ => n - (intOf iv).toNat)
  case atStart =>
    exact ⟨s, [], _, _, _, 0, 0, 0, 0, rfl, rfl, rfl, rfl, rfl, rfl, rfl, rfl, M3.start _ _, Below.refl _ _, .inl ⟨rfl, by rw [hT]; exact Part.start T⟩⟩
  case round =>
    obtain ⟨p, done, vc, vf, vt, s1, c1, l1, f1, rfl, rfl, rfl, rfl, rfl, rfl, rfl, rfl, hM, hbel, hms⟩ := hrel
    have hsz := hbel.size
    by_cases hlt : (p : Int) < en
    · obtain ⟨g, hga, hgb, hc0⟩ := hr.at_ p (by omega)
      subst hga
      have hc : wr.cell? ⟨g, p, none⟩ = some (.int .u8 (xs.getD p 0)) := (hbel.cell (p := ⟨g, p, none⟩) hgb).trans hc0
      have hby := hr.byte p
      have hpn : p < n := by omega
      have hp0 : (0 : Int) ≤ (p : Int) := by omega
      have hp1 : (p : Int) < (xs.length : Int) := by omega
      have hgl : g < wr.heap.size := by omega
      clear hc0
      rcases hms with ⟨rfl, hpart⟩ | ⟨rfl, q, hpq, hqn, hqc, hq0, hq255, hpart⟩ | ⟨rfl, q, k, hff, hll, hl0, hq2, hpn', hqc, hq0, hq255, hqk, hpart⟩
      · by_cases h0 : xs.getD p 0 = 0
        · have hk : Hid (spec xs n p = spec xs n (p + 1)) := spec_pad hpn h0
          rw [h0] at hc
          go_wp2_with fail
          go_roundw
          case rel => exact ⟨p + 1, done, _, _, _, 0, _, _, _, rfl, rfl, rfl, rfl, rfl, rfl, rfl, by go_num, hM, hbel, .inl ⟨rfl, by rw [← hk.out]; exact hpart⟩⟩
          case measure => simp [intOf]; omega
        · by_cases h1 : xs.getD p 0 = 255
          · have hk : Hid (spec xs n p = ([], false)) := spec_end hpn h1
            rw [h1] at hc
            go_wp2_with fail
            (try simp only [Exit.inBlock, Exit.then])
            refine bodyPost_ret (results_tmp4 rfl _ _ _) rfl ?_
            rw [hk.out] at hpart
            obtain ⟨e1, e2⟩ := hpart.over
            rw [e1, e2]
            exact ⟨_, _, _, rfl, hM, hbel⟩
          · generalize hcv : xs.getD p 0 = c at *
            go_wp2_with fail
            go_roundw
            case rel => exact ⟨p + 1, done, _, _, _, 1, _, _, _, rfl, rfl, rfl, rfl, rfl, rfl, rfl, by go_num, hM, hbel, .inr (.inl ⟨rfl, p, rfl, hpn, hcv, h0, h1, hpart⟩)⟩
            case measure => simp [intOf]; omega
      · have hdn : done.length ≤ 2000000 := by
          have := congrArg (fun t => t.1.length) hpart
          simp at this
          omega
        by_cases h0 : xs.getD p 0 = 0
        · have hk : Hid (spec xs n q = ((xs.getD q 0, q + 2, (xs.getD (q + 1) 0).toNat) :: (spec xs n (q + 2 + (xs.getD (q + 1) 0).toNat)).1, (spec xs n (q + 2 + (xs.getD (q + 1) 0).toNat)).2)) := spec_opt hqn (by omega) (by omega) (by omega) (by rw [← hpq, h0]; simp; omega)
          rw [← hpq, h0, hqc] at hk
          rw [h0] at hc
          have hE1 : Hid (((q + 2 : Nat) : Int) = (p : Int) + 1) := (by omega : ((q + 2 : Nat) : Int) = (p : Int) + 1)
          have hE2 : Hid (((q + 2 + 0 : Nat) : Int) = (p : Int) + 1) := (by omega : ((q + 2 + 0 : Nat) : Int) = (p : Int) + 1)
          have hP : Hid (q + 2 = p + 1) := (by omega : q + 2 = p + 1)
          clear hqc hpq
          go_wp2_with (at_builtin; refine wpList_append_lies _ rfl _ _ 22 rfl w.heap.size 5 i5 (.int .u8 0) 1 1 Tryf.underlying22 hi5 h50 h51 h52 rfl (by decide) _ _ _ rfl (hM.codes.alloc _) ⟨wr.heap.size, 0, none⟩ 1 1 [.int .u8 c1] rfl rfl (one_new _ _ _) (by simp [Value.oneCell']) (by decide) ?c1 ?c2 ?c3 _ rfl ?_)
          case c1 => unfold maxLen; omega
          case c2 => omega
          case c3 => simp; omega
          intro g1 cap1 w1 hown1 hg1 hl1 _
          have hM1 := hM.pushCode _ _ hown1 hg1
          have hz1 : w.heap.size ≤ w1.heap.size := by have := hg1.size; simp at this; omega
          have hbel1 : Below w.heap.size w w1 := (hbel.alloc hsz _).grown hg1 (by simp; omega) (fun k hk => (hM.codes.lt k hk).1)
          clear hown1 hg1 hl1
          go_wp2_with (at_builtin; refine wpList_append_lies _ rfl _ _ 30 rfl w.heap.size 3 i3 (.int .i64 0) 1 8 Tryf.underlying30 hi3 h30 h31 h32 rfl (by decide) _ _ _ rfl (hM1.froms.alloc _) ⟨w1.heap.size, 0, none⟩ 1 1 [.int .i64 ((p : Int) + 1)] rfl rfl (one_new _ _ _) (by simp [Value.oneCell']) (by decide) ?c1 ?c2 ?c3 _ rfl ?_)
          case c1 => unfold maxLen; omega
          case c2 => omega
          case c3 => simp; omega
          intro g2 cap2 w2 hown2 hg2 hl2 _
          have hM2 := hM1.pushFrom _ (q + 2) g2 cap2 (w1.heap.size + 1) (by simp) (by rw [hE1.out]; exact hown2) hg2 hl2
          have hz2 : w.heap.size ≤ w2.heap.size := by have := hg2.size; simp at this; omega
          have hbel2 : Below w.heap.size w w2 := (hbel1.alloc hz1 _).grown hg2 (by simp; omega) (fun k hk => (hM1.froms.lt k hk).1)
          clear hown2 hg2 hl2
          go_wp2_with (at_builtin; refine wpList_append_lies _ rfl _ _ 30 rfl w.heap.size 3 i3 (.int .i64 0) 1 8 Tryf.underlying30 hi3 h30 h31 h32 rfl (by decide) _ _ _ rfl (hM2.tos.alloc _) ⟨w2.heap.size, 0, none⟩ 1 1 [.int .i64 ((p : Int) + 1)] rfl rfl (one_new _ _ _) (by simp [Value.oneCell']) (by decide) ?c1 ?c2 ?c3 _ rfl ?_)
          case c1 => unfold maxLen; omega
          case c2 => omega
          case c3 => simp; omega
          intro g3 cap3 w3 hown3 hg3 hl3 _
          have hM3 := hM2.pushTo _ (q + 2 + 0) g3 cap3 (w2.heap.size + 1) (by simp) (by rw [hE2.out]; exact hown3) hg3 hl3
          have hbel3 : Below w.heap.size w w3 := (hbel2.alloc hz2 _).grown hg3 (by simp; omega) (fun k hk => (hM2.tos.lt k hk).1)
          clear hown3 hg3 hl3
          go_wp2_with fail
          go_roundw
          case rel =>
            refine ⟨p + 1, done ++ [(c1, q + 2, 0)], _, _, _, 0, _, _, _, rfl, rfl, rfl, rfl, rfl, rfl, rfl, by go_num, ?_, hbel3, .inl ⟨rfl, ?_⟩⟩
            · rw [List.map_append, List.map_append, List.map_append, List.length_append]
              exact hM3
            · rw [hk.out] at hpart
              have e := hpart.step
              simpa [hP.out] using e
          case measure => simp [intOf]; omega
        · obtain ⟨k, hkv⟩ : ∃ k : Nat, xs.getD p 0 = k := ⟨(xs.getD p 0).toNat, by omega⟩
          rw [hkv] at hc h0 hby
          have hke : ((k : Int) == 0) = false := beq_eq_false_iff_ne.2 h0
          have hP : Hid (p = q + 1) := hpq
          have hQ : Hid (xs.getD p 0 = k) := hkv
          have hR : Hid (xs.getD q 0 = c1) := hqc
          clear hpq hkv hqc
          go_wp2_with fail
          go_roundw
          case rel => exact ⟨p + 1, done, _, _, _, 2, _, _, _, rfl, rfl, rfl, rfl, rfl, rfl, rfl, by go_num, hM, hbel, by have hpq := hP.out; exact .inr (.inr ⟨rfl, q, k, by omega, by omega, by omega, by omega, by omega, hR.out, hq0, hq255, by rw [← hpq]; exact hQ.out, hpart⟩)⟩
          case measure => simp [intOf]; omega
      · have hdn : done.length ≤ 2000000 := by
          have := congrArg (fun t => t.1.length) hpart
          simp at this
          omega
        by_cases h0 : l1 - 1 = 0
        · have hk : Hid (spec xs n q = ((xs.getD q 0, q + 2, (xs.getD (q + 1) 0).toNat) :: (spec xs n (q + 2 + (xs.getD (q + 1) 0).toNat)).1, (spec xs n (q + 2 + (xs.getD (q + 1) 0).toNat)).2)) := spec_opt (by omega) (by omega) (by omega) (by omega) (by rw [hqk]; simp; omega)
          rw [hqk, hqc, Int.toNat_natCast] at hk
          have hE1 : Hid (((q + 2 : Nat) : Int) = f1) := (by omega : ((q + 2 : Nat) : Int) = f1)
          have hE2 : Hid (((q + 2 + k : Nat) : Int) = (p : Int) + 1) := (by omega : ((q + 2 + k : Nat) : Int) = (p : Int) + 1)
          have hP : Hid (p + 1 = q + 2 + k) := (by omega : p + 1 = q + 2 + k)
          obtain rfl : l1 = 1 := by omega
          clear hqc hqk hff hll
          go_wp2_with (at_builtin; refine wpList_append_lies _ rfl _ _ 22 rfl w.heap.size 5 i5 (.int .u8 0) 1 1 Tryf.underlying22 hi5 h50 h51 h52 rfl (by decide) _ _ _ rfl (hM.codes.alloc _) ⟨wr.heap.size, 0, none⟩ 1 1 [.int .u8 c1] rfl rfl (one_new _ _ _) (by simp [Value.oneCell']) (by decide) ?c1 ?c2 ?c3 _ rfl ?_)
          case c1 => unfold maxLen; omega
          case c2 => omega
          case c3 => simp; omega
          intro g1 cap1 w1 hown1 hg1 hl1 _
          have hM1 := hM.pushCode _ _ hown1 hg1
          have hz1 : w.heap.size ≤ w1.heap.size := by have := hg1.size; simp at this; omega
          have hbel1 : Below w.heap.size w w1 := (hbel.alloc hsz _).grown hg1 (by simp; omega) (fun k hk => (hM.codes.lt k hk).1)
          clear hown1 hg1 hl1
          go_wp2_with (at_builtin; refine wpList_append_lies _ rfl _ _ 30 rfl w.heap.size 3 i3 (.int .i64 0) 1 8 Tryf.underlying30 hi3 h30 h31 h32 rfl (by decide) _ _ _ rfl (hM1.froms.alloc _) ⟨w1.heap.size, 0, none⟩ 1 1 [.int .i64 (f1)] rfl rfl (one_new _ _ _) (by simp [Value.oneCell']) (by decide) ?c1 ?c2 ?c3 _ rfl ?_)
          case c1 => unfold maxLen; omega
          case c2 => omega
          case c3 => simp; omega
          intro g2 cap2 w2 hown2 hg2 hl2 _
          have hM2 := hM1.pushFrom _ (q + 2) g2 cap2 (w1.heap.size + 1) (by simp) (by rw [hE1.out]; exact hown2) hg2 hl2
          have hz2 : w.heap.size ≤ w2.heap.size := by have := hg2.size; simp at this; omega
          have hbel2 : Below w.heap.size w w2 := (hbel1.alloc hz1 _).grown hg2 (by simp; omega) (fun k hk => (hM1.froms.lt k hk).1)
          clear hown2 hg2 hl2
          go_wp2_with (at_builtin; refine wpList_append_lies _ rfl _ _ 30 rfl w.heap.size 3 i3 (.int .i64 0) 1 8 Tryf.underlying30 hi3 h30 h31 h32 rfl (by decide) _ _ _ rfl (hM2.tos.alloc _) ⟨w2.heap.size, 0, none⟩ 1 1 [.int .i64 ((p : Int) + 1)] rfl rfl (one_new _ _ _) (by simp [Value.oneCell']) (by decide) ?c1 ?c2 ?c3 _ rfl ?_)
          case c1 => unfold maxLen; omega
          case c2 => omega
          case c3 => simp; omega
          intro g3 cap3 w3 hown3 hg3 hl3 _
          have hM3 := hM2.pushTo _ (q + 2 + k) g3 cap3 (w2.heap.size + 1) (by simp) (by rw [hE2.out]; exact hown3) hg3 hl3
          have hbel3 : Below w.heap.size w w3 := (hbel2.alloc hz2 _).grown hg3 (by simp; omega) (fun k hk => (hM2.tos.lt k hk).1)
          clear hown3 hg3 hl3
          go_wp2_with fail
          go_roundw
          case rel =>
            refine ⟨p + 1, done ++ [(c1, q + 2, k)], _, _, _, 0, _, _, _, rfl, rfl, rfl, rfl, rfl, rfl, rfl, by go_num, ?_, hbel3, .inl ⟨rfl, ?_⟩⟩
            · rw [List.map_append, List.map_append, List.map_append, List.length_append]
              exact hM3
            · rw [hk.out] at hpart
              have e := hpart.step
              rw [hP.out]; exact e
          case measure => simp [intOf]; omega
        · have hke : (l1 - 1 == 0) = false := beq_eq_false_iff_ne.2 h0
          have hkb : l1 ≤ 2000000 := by have := hr.byte (q + 1); omega
          have hP : Hid (f1 = (q : Int) + 2) := hff
          have hQ : Hid (l1 = (q : Int) + 2 + k - p) := hll
          have hR : Hid (xs.getD q 0 = c1) := hqc
          have hU : Hid (xs.getD (q + 1) 0 = k) := hqk
          clear hff hll hqc hqk
          go_wp2_with fail
          go_roundw
          case rel => exact ⟨p + 1, done, _, _, _, 2, _, _, _, rfl, rfl, rfl, rfl, rfl, rfl, rfl, by go_num, hM, hbel, by have hll := hQ.out; exact .inr (.inr ⟨rfl, q, k, hP.out, by omega, by omega, by omega, by omega, hR.out, hq0, hq255, hU.out, hpart⟩)⟩
          case measure => simp [intOf]; omega
    · have hnp : ¬ p < n := by omega
      rcases hms with ⟨rfl, hpart⟩ | ⟨rfl, q, hpq, hqn, hqc, hq0, hq255, hpart⟩ | ⟨rfl, q, k, hff, hll, hl0, hq2, hpn', hqc, hq0, hq255, hqk, hpart⟩
      · have hk : Hid (spec xs n p = ([], false)) := spec_done hnp
        go_wp2_with fail
        (try simp only [Exit.inBlock, Exit.then])
        refine bodyPost_ret (results_tmp4 rfl _ _ _) rfl ?_
        rw [hk.out] at hpart
        obtain ⟨e1, e2⟩ := hpart.over
        rw [e1, e2]
        exact ⟨_, _, _, rfl, hM, hbel⟩
      · have hk : Hid (spec xs n q = ([], true)) := spec_nolen hqn (by omega) (by omega) (by omega)
        go_wp2_with fail
        (try simp only [Exit.inBlock, Exit.then])
        refine bodyPost_ret (results_tmp4 rfl _ _ _) rfl ?_
        rw [hk.out] at hpart
        obtain ⟨e1, e2⟩ := hpart.over
        rw [e1, e2]
        exact ⟨_, _, _, rfl, hM, hbel⟩
      · have hk : Hid (spec xs n q = ([], true)) := spec_short (by omega) (by omega) (by omega) (by omega) (by omega)
        go_wp2_with fail
        (try simp only [Exit.inBlock, Exit.then])
        refine bodyPost_ret (results_tmp4 rfl _ _ _) rfl ?_
        rw [hk.out] at hpart
        obtain ⟨e1, e2⟩ := hpart.over
        rw [e1, e2]
        exact ⟨_, _, _, rfl, hM, hbel⟩
end Go.Proofs.Qxb6612485aFmt
