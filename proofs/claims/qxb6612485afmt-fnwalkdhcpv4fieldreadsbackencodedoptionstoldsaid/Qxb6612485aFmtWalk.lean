import Derived.Test.Qxb6612485aFmtVisit
import Derived.Test.Qxb6612485aFmtSays
import Derived.Test.Qxb6612485aFmtSpec
namespace Go.Proofs.Qxb6612485aFmt
open Go.RowKit
open Go.Extern.Stop Go.Stop Go.Extern

/-- The bytes xs lie, one behind the other, at block g, below block b. -/
structure Rd (w : World) (b : Nat) (a : Option Addr) (xs : List Int) : Prop where
  at_ : ∀ i, i < xs.length → ∃ g, a = some ⟨g, 0, none⟩ ∧ g < b ∧ w.cell? ⟨g, i, none⟩ = some (.int .u8 (xs.getD i 0))
  byte : ∀ i, 0 ≤ xs.getD i 0 ∧ xs.getD i 0 ≤ 255
  small : xs.length ≤ 2000000

theorem Rd.below {w w' : World} {b : Nat} {a : Option Addr} {xs : List Int} (h : Rd w b a xs) (hb : Below b w w') : Rd w' b a xs :=
  ⟨fun i hi => by
    obtain ⟨g, h1, h2, h3⟩ := h.at_ i hi
    exact ⟨g, h1, h2, (hb.cell (p := ⟨g, i, none⟩) h2).trans h3⟩, h.byte, h.small⟩
theorem Rd.mono {w : World} {b b' : Nat} {a : Option Addr} {xs : List Int} (h : Rd w b a xs) (hb : b ≤ b') : Rd w b' a xs :=
  ⟨fun i hi => by
    obtain ⟨g, h1, h2, h3⟩ := h.at_ i hi
    exact ⟨g, h1, by omega, h3⟩, h.byte, h.small⟩

theorem Box.kept {b : Nat} {w w' : World} {cs : List Int} {ds : List Value} (h : Box b w cs ds) (hk : Below w.heap.size w w') : Box b w' cs ds := by
  obtain ⟨vc, vd, hb0, hb1, ho0, ho1⟩ := h
  have hg : w.grownBy w' none := ⟨hk.os, hk.tape, hk.output, hk.size, fun k hk' _ => hk.block k hk'⟩
  refine ⟨vc, vd, (hk.block _ (blk_lt hb0)).trans hb0, (hk.block _ (blk_lt hb1)).trans hb1, ho0.kept hg ?_, ho1.kept hg ?_⟩
  · cases vc.ownBlock <;> simp
  · cases vd.ownBlock <;> simp
theorem Box.lt {b : Nat} {w : World} {cs : List Int} {ds : List Value} (h : Box b w cs ds) : b + 1 < w.heap.size := by
  obtain ⟨vc, vd, hb0, hb1, ho0, ho1⟩ := h
  exact blk_lt hb1

/-- The data of an option, as a value: a piece of the message. -/
def piece (a : Option Addr) (cap : Nat) (o : Opt) : Value := if o.2.1 = cap then .slice a o.2.2 0 else .slice (a.map fun x => ⟨x.block, o.2.1, none⟩) o.2.2 (cap - o.2.1)

set_option maxRecDepth 100000 in
set_option maxHeartbeats 1600000 in
theorem walk_any (F : Interp) (b : Nat) (a : Option Addr) (xs : List Int) (cap : Nat) (st en : Int) (nm : ByteArray) (w : World) (hF : F.answers w.tape) (hr : Rd w b a xs) (hcap : xs.length ≤ cap) (hst : 0 ≤ st) (hen : en ≤ xs.length) (hbox : Box b w [] []) :
    Calls Tryf.prog 11 #[.slice a xs.length cap, .int .i64 st, .int .i64 en, .string nm, .func (.func 12) #[] #[.pointer (some ⟨b, 0, none⟩), .pointer (some ⟨b + 1, 0, none⟩)]] w fun e w' =>
      ∃ err, e = .returned err ∧ ((err = .nilIface ∧ (spec xs en.toNat st.toNat).2 = false) ∨ ((∃ q, err = .iface 41 (.pointer (some q))) ∧ (spec xs en.toNat st.toNat).2 = true)) ∧
        Box b w' ((spec xs en.toNat st.toNat).1.map fun o => o.1) ((spec xs en.toNat st.toNat).1.map (piece a cap)) ∧ Below b w w' := by
  obtain ⟨n, hn⟩ : ∃ n : Nat, en.toNat = n := ⟨_, rfl⟩
  obtain ⟨s, rfl⟩ : ∃ s : Nat, st = s := ⟨st.toNat, by omega⟩
  simp only [Int.toNat_natCast, hn]
  have hfew := spec_few xs n s
  have hsm := hr.small
  generalize hT : spec xs n s = T at *
  go_enter Tryf.func11, Tryf.ntmps11
  go_wp2_with fail
  go_loopw [11] (fun at_ wr => ∃ (p : Nat) (done : List Opt), at_ = .int .i64 p ∧ Part T done (spec xs n p) ∧ Box b wr (done.map fun o => o.1) (done.map (piece a cap)) ∧ Below b w wr) (fun at_ _ => n - (intOf at_).toNat)
  case atStart =>
    exact ⟨s, [], rfl, by rw [hT]; exact Part.start T, hbox, Below.refl _ _⟩
  case round =>
    obtain ⟨p, done, rfl, hpart, hbx, hbel⟩ := hrel
    by_cases hlt : (p : Int) < en
    · obtain ⟨g, hga, hgb, hc0⟩ := hr.at_ p (by omega)
      subst hga
      have hc : wr.cell? ⟨g, p, none⟩ = some (.int .u8 (xs.getD p 0)) := (hbel.cell (p := ⟨g, p, none⟩) hgb).trans hc0
      have hby := hr.byte p
      have hpn : p < n := by omega
      have hp0 : (0 : Int) ≤ (p : Int) := by omega
      have hp1 : (p : Int) < (xs.length : Int) := by omega
      have hgl : g < wr.heap.size := by
        obtain ⟨vc, vd, hb0, _⟩ := hbx
        have := blk_lt hb0
        omega
      by_cases h0 : xs.getD p 0 = 0
      · have hk : Hid (spec xs n p = spec xs n (p + 1)) := spec_pad hpn h0
        rw [h0] at hc
        clear hc0
        go_wp2_with fail
        go_roundw
        case rel => exact ⟨p + 1, done, by go_num, by rw [← hk.out]; exact hpart, hbx, hbel⟩
        case measure => simp [intOf]; omega
      · by_cases h1 : xs.getD p 0 = 255
        · have hk : Hid (spec xs n p = ([], false)) := spec_end hpn h1
          rw [h1] at hc
          clear hc0
          go_wp2_with fail
          go_ret
          rw [hk.out] at hpart
          obtain ⟨e1, e2⟩ := hpart.over
          rw [e1, e2]
          exact ⟨_, rfl, .inl ⟨rfl, rfl⟩, hbx, hbel⟩
        · by_cases h2 : (p : Int) + 1 = en
          · have hk : Hid (spec xs n p = ([], true)) := spec_nolen hpn h0 h1 (by omega)
            clear hc0
            have hbl := hbx.lt
            generalize xs.getD p 0 = c at *
            go_wp2_with fail
            refine (errorf_A F c p nm wr.heap.size _ ?t1 ?t2 ?t3 ?t4).mono ?_
            case t1 => show F.answers wr.tape; rw [hbel.tape]; exact hF
            case t2 => exact blk_cell (heap_alloc_new wr _) 0
            case t3 => exact blk_cell (heap_alloc_new wr _) 1
            case t4 => exact blk_cell (heap_alloc_new wr _) 2
            rintro e w' ⟨rfl, hb'⟩
            go_wp2_with fail
            go_ret
            rw [hk.out] at hpart
            obtain ⟨e1, e2⟩ := hpart.over
            have hb2 : Below wr.heap.size wr w' := ((Below.refl _ _).alloc (Nat.le_refl _) _).trans (hb'.mono (by simp))
            rw [e1, e2]
            exact ⟨_, rfl, .inr ⟨⟨_, rfl⟩, rfl⟩, hbx.kept hb2, hbel.trans (hb2.mono (by omega))⟩
          · obtain ⟨g', hga, hgb', hd0⟩ := hr.at_ (p + 1) (by omega)
            obtain rfl : g' = g := by simpa using hga.symm
            have hd : wr.cell? ⟨g', p + 1, none⟩ = some (.int .u8 (xs.getD (p + 1) 0)) := (hbel.cell (p := ⟨g', p + 1, none⟩) hgb).trans hd0
            have hby2 := hr.byte (p + 1)
            have hq0 : (0 : Int) ≤ (p : Int) + 1 := by omega
            have hq1 : (p : Int) + 1 < (xs.length : Int) := by omega
            by_cases h3 : en - (p : Int) - 2 < xs.getD (p + 1) 0
            · have hk : Hid (spec xs n p = ([], true)) := spec_short hpn h0 h1 (by omega) (by omega)
              clear hc0 hd0
              have hbl := hbx.lt
              generalize xs.getD p 0 = c at *
              generalize xs.getD (p + 1) 0 = m at *
              go_wp2_with fail
              refine (errorf_B F c p m nm wr.heap.size _ ?t1 ?t2 ?t3 ?t4 ?t5).mono ?_
              case t1 => show F.answers wr.tape; rw [hbel.tape]; exact hF
              case t2 => exact blk_cell (heap_alloc_new wr _) 0
              case t3 => exact blk_cell (heap_alloc_new wr _) 1
              case t4 => exact blk_cell (heap_alloc_new wr _) 2
              case t5 => exact blk_cell (heap_alloc_new wr _) 3
              rintro e w' ⟨rfl, hb'⟩
              go_wp2_with fail
              go_ret
              rw [hk.out] at hpart
              obtain ⟨e1, e2⟩ := hpart.over
              have hb2 : Below wr.heap.size wr w' := ((Below.refl _ _).alloc (Nat.le_refl _) _).trans (hb'.mono (by simp))
              rw [e1, e2]
              exact ⟨_, rfl, .inr ⟨⟨_, rfl⟩, rfl⟩, hbx.kept hb2, hbel.trans (hb2.mono (by omega))⟩
            · have hk : Hid (spec xs n p = ((xs.getD p 0, p + 2, (xs.getD (p + 1) 0).toNat) :: (spec xs n (p + 2 + (xs.getD (p + 1) 0).toNat)).1, (spec xs n (p + 2 + (xs.getD (p + 1) 0).toNat)).2)) := spec_opt hpn h0 h1 (by omega) (by omega)
              obtain ⟨k, hkv⟩ : ∃ k : Nat, xs.getD (p + 1) 0 = k := ⟨(xs.getD (p + 1) 0).toNat, by omega⟩
              rw [hkv] at hd hby2 h3 hk
              rw [Int.toNat_natCast] at hk
              have hdn : done.length ≤ 2000000 := by
                have := congrArg (fun t => t.1.length) hpart
                simp at this
                omega
              clear hc0 hd0 hkv
              have hbl := hbx.lt
              generalize xs.getD p 0 = c at *
              have hs1 : (0 : Int) ≤ (p : Int) + 2 := by omega
              have hs2 : (p : Int) + 2 ≤ (p : Int) + 2 + (k : Int) := by omega
              have hs3 : (p : Int) + 2 + (k : Int) ≤ (cap : Int) := by omega
              have hdn1 : (done.map fun o => o.1).length ≤ 10000000 := by rw [List.length_map]; omega
              have hdn2 : (done.map (piece (some ⟨g', 0, none⟩) cap)).length ≤ 10000000 := by rw [List.length_map]; omega
              by_cases hce : p + 2 = cap
              · subst hce
                go_wp2_with fail
                refine (visit_any b c (some ⟨g', 0, none⟩) k 0 _ _ wr hbx hdn1 hdn2).mono ?_
                rintro e w' ⟨rfl, hB, hbl'⟩
                go_wp2_with fail
                go_roundw
                case rel =>
                  refine ⟨p + 2 + k, done ++ [(c, p + 2, k)], by go_num, ?_, ?_, hbel.trans hbl'⟩
                  · rw [hk.out] at hpart
                    exact hpart.step
                  · rw [List.map_append, List.map_append]
                    simpa [piece] using hB
                case measure => simp [intOf]; omega
              · have hs4 : p + 2 < cap := by omega
                have hs5 : (cap : Int) ≠ (p : Int) + 2 := by omega
                go_wp2_with fail
                refine (visit_any b c (some ⟨g', p + 2, none⟩) k (cap - (p + 2)) _ _ wr hbx hdn1 hdn2).mono ?_
                rintro e w' ⟨rfl, hB, hbl'⟩
                go_wp2_with fail
                go_roundw
                case rel =>
                  refine ⟨p + 2 + k, done ++ [(c, p + 2, k)], by go_num, ?_, ?_, hbel.trans hbl'⟩
                  · rw [hk.out] at hpart
                    exact hpart.step
                  · rw [List.map_append, List.map_append]
                    simpa [piece, hce] using hB
                case measure => simp [intOf]; omega
    · have hk : Hid (spec xs n p = ([], false)) := spec_done (by omega)
      go_wp2_with fail
      go_ret
      rw [hk.out] at hpart
      obtain ⟨e1, e2⟩ := hpart.over
      rw [e1, e2]
      exact ⟨_, rfl, .inl ⟨rfl, rfl⟩, hbx, hbel⟩
end Go.Proofs.Qxb6612485aFmt
