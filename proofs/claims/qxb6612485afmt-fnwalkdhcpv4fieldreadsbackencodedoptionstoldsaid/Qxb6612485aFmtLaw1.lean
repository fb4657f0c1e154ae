import Derived.Test.Qxb6612485aFmtZz
import Derived.Test.Qxb6612485aFmtMach
import Derived.Test.Qxb6612485aFmtClone
import Derived.Test.Qxb6612485aFmtZzb
import Derived.Stop.FmtTextKit
namespace Go.Proofs.Qxb6612485aFmt
open Go.RowKit
open Go.Extern.Stop Go.Stop Go.Extern

theorem own_read {w : World} {B : Nat} {e : TypeId} {v : Value} {n : Nat} {xs : List Value} (h : w.ownsRow B e 1 v n xs) :
    ∃ ao cp, v = .slice ao n cp ∧ ∀ k, k < n → ∃ g, ao = some ⟨g, 0, none⟩ ∧ g < w.heap.size ∧ w.cell? ⟨g, k, none⟩ = xs[k]? := by
  rcases h.2 with ⟨rfl, rfl⟩ | ⟨g, cap, cur, rfl, _, hg, _, _, _, ht⟩
  · exact ⟨none, 0, rfl, fun k hk => by omega⟩
  · refine ⟨_, _, rfl, fun k hk => ⟨g, rfl, blk_lt hg, ?_⟩⟩
    rw [blk_cell hg, ← ht, List.getElem?_take_of_lt (by omega)]
    simp
theorem own_below {w w' : World} {B : Nat} {e : TypeId} {v : Value} {n : Nat} {xs : List Value} (h : w.ownsRow B e 1 v n xs) (hk : Below w.heap.size w w') : w'.ownsRow B e 1 v n xs := by
  have hg : w.grownBy w' none := ⟨hk.os, hk.tape, hk.output, hk.size, fun k hk' _ => hk.block k hk'⟩
  exact h.kept hg (by cases v.ownBlock <;> simp)
theorem wf_byte {n : Int} (h : (Lit.int .u8 n).wf = true) : 0 ≤ n ∧ n ≤ 255 := by
  have := FmtText.int_bounds h
  simpa [IntKind.min, IntKind.max, IntKind.signed, IntKind.bits] using this

theorem Own.rd {w : World} {b : Nat} {a : Option Addr} {zs : List Int} {n : Nat} (h : Own w b a (zs.take n)) (hz : ∀ x ∈ zs, (Lit.int .u8 x).wf = true) (hn : (zs.take n).length ≤ 2000000) : Rd w w.heap.size a (zs.take n) := by
  refine ⟨fun i hi => ?_, fun i => ?_, hn⟩
  · rcases h with ⟨_, e⟩ | ⟨g, rfl, _, hg⟩
    · rw [e] at hi
      cases hi
    · refine ⟨g, rfl, blk_lt hg, ?_⟩
      rw [blk_cell hg]
      simp only [bytesOf, List.getElem?_toArray, List.getElem?_map, List.getD_eq_getElem?_getD]
      rw [List.getElem?_eq_getElem hi]
      rfl
  · rw [List.getD_eq_getElem?_getD]
    cases hx : (zs.take n)[i]? with
    | none => simp
    | some x => exact wf_byte (hz x (List.mem_of_mem_take (List.mem_of_getElem? hx)))
theorem IsRow.wf {k : IntKind} {w : World} {a : Option Addr} {len cap : Nat} {zs : List Int} (h : IsRow k w a len cap zs) : ∀ x ∈ zs, (Lit.int k x).wf = true := by
  rcases h with ⟨_, _, _, rfl⟩ | ⟨_, _, _, _, _, _, h⟩
  · intro x hx
    cases hx
  · exact h
theorem IsRow.len {k : IntKind} {w : World} {a : Option Addr} {len cap : Nat} {zs : List Int} (h : IsRow k w a len cap zs) : len ≤ zs.length := by
  rcases h with ⟨_, rfl, _, rfl⟩ | ⟨_, _, h1, _, h2, _, _⟩
  · simp
  · omega

/-- A piece, as a slice. -/
theorem piece_form (a : Option Addr) (cap : Nat) (o : Opt) (h : o.2.1 + o.2.2 ≤ cap) (g : Nat) (ha : 0 < o.2.2 → a = some ⟨g, 0, none⟩) :
    ∃ ap cp, piece a cap o = .slice ap o.2.2 cp ∧ (0 < o.2.2 → ap = some ⟨g, o.2.1, none⟩) := by
  unfold piece
  by_cases hc : o.2.1 = cap
  · rw [if_pos hc]
    exact ⟨_, _, rfl, fun h0 => by omega⟩
  · rw [if_neg hc]
    exact ⟨_, _, rfl, fun h0 => by rw [ha h0]; rfl⟩

theorem same_cell {w w' : World} (h : w'.heap = w.heap) (a : Addr) : w'.cell? a = w.cell? a := World.cell?_of_block (by rw [h])

theorem cmp_err {err : Value} {f : Bool} (h : Err err f) (w : World) : (binOp .neq 27 err .nilIface).run Tryf.prog w = .ok (.bool f) w := by
  rcases h with ⟨rfl, rfl⟩ | ⟨⟨q, rfl⟩, rfl⟩
  · kernel_rfl
  · kernel_rfl

theorem grd_err {err : Value} {f : Bool} (h : Err err f) (op : BinOp) (hop : op = .neq ∨ op = .eql) (i : Nat) (w : World) : (eqGuard op 27 (.tmp i) (.const .nilIface) err .nilIface).run Tryf.prog w = .ok () w := by
  rcases h with ⟨rfl, rfl⟩ | ⟨⟨q, rfl⟩, rfl⟩ <;> rcases hop with rfl | rfl <;> kernel_rfl

set_option maxRecDepth 100000 in
set_option maxHeartbeats 4000000 in
theorem law1 (F : Interp) (a : Option Addr) (n cap : Nat) (zs : List Int) (st en : Int) (nm : ByteArray) (w : World) (hF : F.answers w.tape) (h : IsRow .u8 w a n cap zs) :
    Calls Tryf.prog 3 #[.slice a n cap, .int .i64 st, .int .i64 en, .string nm] w fun e w' => e = .returned (.bool true) ∧ Below w.heap.size w w' := by
  go_enter Tryf.func3, Tryf.ntmps3
  go_wp2_with fail
  refine (zzb5 a n cap st en nm w).mono ?_
  rintro e w' ⟨rfl, r, rfl, hr⟩
  cases r with
  | false =>
    clear hr
    go_wp2_with fail
    go_ret
    exact ⟨rfl, Below.refl _ _⟩
  | true =>
    have hs := hr rfl
    clear hr
    by_cases h1 : (524288 : Int) < (n : Int)
    · go_wp2_with fail
      go_ret
      exact ⟨rfl, Below.refl _ _⟩
    by_cases h2 : (524288 : Int) < (nm.size : Int)
    · go_wp2_with fail
      go_ret
      exact ⟨rfl, Below.refl _ _⟩
    by_cases h3 : st < 0
    · go_wp2_with fail
      go_ret
      exact ⟨rfl, Below.refl _ _⟩
    by_cases h4 : (n : Int) < en
    · go_wp2_with fail
      go_ret
      exact ⟨rfl, Below.refl _ _⟩
    go_wp2_with fail
    refine (clone_any a n cap zs w' h (by omega)).mono ?_
    rintro e w1 ⟨a1, rfl, hown, hbel1⟩
    have hlen : (zs.take n).length = n := by have := h.len; simp; omega
    have hrd := hown.rd h.wf (by omega)
    have hF1 : F.answers w1.tape := by rw [hbel1.tape]; exact hF
    clear hown h
    generalize zs.take n = xs at *
    subst hlen
    go_wp2_with fail
    refine (zz_any F a1 xs xs.length st en nm w1 hF1 hrd (Nat.le_refl _) (by omega) (by omega)).mono ?_
    rintro e w2 ⟨vc, vd, err, rfl, herr, hc2, hd2, hbel2⟩
    go_wp2_with fail
    refine (machine_any a1 xs xs.length st en w2 ((hrd.below hbel2).mono hbel2.size) (by omega) (by omega)).mono ?_
    rintro e w3 ⟨wc, wf, wt, rfl, hM, hbel3⟩
    have hbel : Below w'.heap.size w' w3 := (hbel1.trans (hbel2.mono hbel1.size)).trans (hbel3.mono (Nat.le_trans hbel1.size hbel2.size))
    have hc3 := own_below hc2 hbel3
    have hd3 := own_below hd2 hbel3
    have hrd3 : Rd w3 w3.heap.size a1 xs := (((hrd.below hbel2).mono hbel2.size).below hbel3).mono hbel3.size
    have hin := spec_in xs en.toNat st.toNat
    have hfew := spec_few xs en.toNat st.toNat
    clear hc2 hd2 hbel1 hbel2 hbel3 hrd
    generalize spec xs en.toNat st.toNat = T at *
    rw [List.length_map] at hc3 hd3
    obtain ⟨ao1, cp1, rfl, r1⟩ := own_read hc3
    obtain ⟨ao2, cp2, rfl, r2⟩ := own_read hd3
    obtain ⟨ao3, cp3, rfl, r3⟩ := own_read hM.codes
    obtain ⟨ao4, cp4, rfl, r4⟩ := own_read hM.froms
    obtain ⟨ao5, cp5, rfl, r5⟩ := own_read hM.tos
    clear hc3 hd3 hM
    have hcmp := cmp_err herr
    have hgrd := grd_err herr .neq (.inl rfl)
    clear herr
    obtain ⟨os, fl⟩ := T
    simp only at *
    go_wp2_with fail
    go_loopw [16] (fun kv wr => ∃ k : Nat, kv = .int .i64 k ∧ k ≤ os.length ∧ wr.heap = w3.heap ∧ Below w'.heap.size w' wr) (fun kv _ => os.length - (intOf kv).toNat)
    case atStart => exact ⟨0, rfl, Nat.zero_le _, rfl, hbel⟩
    case round =>
      obtain ⟨k, rfl, hk, hheap, hbr⟩ := hrel
      by_cases hlt : (k : Int) < (os.length : Int)
      · have hko : k < os.length := by omega
        obtain ⟨o, ho⟩ : ∃ o, os[k]? = some o := ⟨os[k], List.getElem?_eq_getElem hko⟩
        obtain ⟨g1, rfl, l1, c1⟩ := r1 k hko
        obtain ⟨g2, rfl, l2, c2⟩ := r2 k hko
        obtain ⟨g3, rfl, l3, c3⟩ := r3 k hko
        obtain ⟨g4, rfl, l4, c4⟩ := r4 k hko
        obtain ⟨g5, rfl, l5, c5⟩ := r5 k hko
        rw [← same_cell hheap] at c1 c2 c3 c4 c5
        simp only [bytesOf, intsOf, List.getElem?_map, ho, Option.map_some] at c1 c2 c3 c4 c5
        have hio := hin o (List.mem_of_getElem? ho)
        obtain ⟨oc, of, ol⟩ := o
        simp only [fromOf, toOf] at c1 c2 c3 c4 c5 hio
        obtain ⟨g, hga⟩ : ∃ g, 0 < ol → a1 = some ⟨g, 0, none⟩ := by
          by_cases h0 : 0 < ol
          · obtain ⟨g, e, _⟩ := hrd3.at_ of (by omega)
            exact ⟨g, fun _ => e⟩
          · exact ⟨0, fun h => absurd h h0⟩
        obtain ⟨ap, cp, hpc, hap⟩ := piece_form a1 xs.length (oc, of, ol) (by show of + ol ≤ _; omega) g hga
        rw [hpc] at c2
        simp only at c2 hap
        have hk0 : (0 : Int) ≤ (k : Int) := by omega
        have hsub : (of : Int) + (ol : Int) - (of : Int) = (ol : Int) := by omega
        rw [Int.natCast_add] at c5
        rw [← hheap] at l1 l2 l3 l4 l5
        clear r1 r2 r3 r4 r5 hpc ho
        go_wp2_with fail
        go_quiet (fail)
        go_wp2_with fail
        go_quiet (fail)
        go_wp2_with fail
        go_loopw [18] (fun jv wj => ∃ j : Nat, jv = .int .i64 j ∧ j ≤ ol ∧ wj.heap = w3.heap ∧ Below w'.heap.size w' wj) (fun jv _ => ol - (intOf jv).toNat)
        case atStart => exact ⟨0, rfl, Nat.zero_le _, hheap, below_drewN (below_drewN hbr _) _⟩
        case round =>
          obtain ⟨j, rfl, hj, hheap2, hbr2⟩ := hrel
          by_cases hjl : (j : Int) < (ol : Int)
          · obtain rfl := hap (by omega)
            obtain rfl := hga (by omega)
            obtain ⟨g', hg', lg, cm0⟩ := hrd3.at_ (of + j) (by omega)
            obtain rfl : g' = g := by simpa using hg'.symm
            have cm : wr.cell? ⟨g', of + j, none⟩ = some (.int .u8 (xs.getD (of + j) 0)) := (same_cell hheap2 _).trans cm0
            have c4' : wr.cell? ⟨g4, k, none⟩ = some (.int .i64 of) := (same_cell (hheap2.trans hheap.symm) _).trans c4
            have lg' : g' < wr.heap.size := by rw [hheap2]; exact lg
            have l4' : g4 < wr.heap.size := by rw [hheap2, ← hheap]; exact l4
            have hj0 : (0 : Int) ≤ (j : Int) := by omega
            have hm0 : (0 : Int) ≤ (of : Int) + (j : Int) := by omega
            have hm1 : (of : Int) + (j : Int) < (xs.length : Int) := by omega
            have HH : Hid (wr.heap = w3.heap) := hheap2
            clear c1 c2 c3 c4 c5 cm0 hheap2 hheap hg'
            go_wp2_with fail
            go_quiet (fail)
            go_wp2_with fail
            go_roundw
            case rel => exact ⟨j + 1, by go_num, by omega, HH.out, below_drewN hbr2 _⟩
            case measure => simp [intOf]; omega
          · have HH : Hid (wr.heap = w3.heap) := hheap2
            clear c1 c2 c3 c4 c5 hheap2 hheap
            go_wp2_with fail
            go_roundw
            case rel => exact ⟨k + 1, by go_num, by omega, HH.out, hbr2⟩
            case measure => simp [intOf]; omega
      · go_wp2_with fail
        go_ret
        exact ⟨rfl, hbr⟩
end Go.Proofs.Qxb6612485aFmt
