import Derived.Test.Qxb6612485aFmtSame
import Derived.Test.Qxb6612485aFmtLast
namespace Go.Proofs.Qxb6612485aFmt
open Go.RowKit
open Go.Extern.Stop Go.Stop Go.Extern

/-- The message. -/
def whole (pre C Z P : List Int) (n : Nat) (Y : List Int) : List Int := pre ++ enc C Z P n ++ (255 :: Y)
theorem whole_length (pre C Z P : List Int) (n : Nat) (Y : List Int) (hU : us Z n ≤ P.length) : (whole pre C Z P n Y).length = pos pre Z n + 1 + Y.length := by
  simp [whole, pos, enc_length C Z P n hU]
  omega

theorem range_at (k i : Nat) (f : Nat → Opt) (hi : i < k) : ((List.range' 0 k).map f)[i]? = some (f i) := by
  simp [hi]

theorem zz_read (F : Interp) (g cap : Nat) (pre C Z P Y : List Int) (n k : Nat) (fl : Bool) (en : Int) (nm : ByteArray) (w : World) (hF : F.answers w.tape) (hU : us Z n ≤ P.length)
    (hr : Rd w w.heap.size (some ⟨g, 0, none⟩) (whole pre C Z P n Y)) (hcap : (whole pre C Z P n Y).length ≤ cap) (hen : en ≤ (whole pre C Z P n Y).length) (hk : k ≤ n)
    (hs : spec (whole pre C Z P n Y) en.toNat pre.length = ((List.range' 0 k).map (optAt pre C Z), fl)) :
    Calls Tryf.prog 7 #[.slice (some ⟨g, 0, none⟩) (whole pre C Z P n Y).length cap, .int .i64 pre.length, .int .i64 en, .string nm] w fun e w' => ∃ a1 c1 a2 c2 err D, e = .returned (.tuple #[.slice a1 k c1, .slice a2 k c2, err]) ∧ Err err fl ∧
      RD w' a1 k (fun i => .int .u8 (C.getD i 0)) ∧ RD w' a2 k D ∧ (∀ i, i < k → Leads w' (D i) (Z.getD i 0).toNat (fun j => P.getD (us Z i + j) 0)) ∧ Below w.heap.size w w' := by
  refine (zz_any F (some ⟨g, 0, none⟩) (whole pre C Z P n Y) cap pre.length en nm w hF hr hcap (by omega) hen).mono ?_
  rintro e w' ⟨vc, vd, err, rfl, herr, hc, hd, hbel⟩
  rw [Int.toNat_natCast, hs] at herr hc hd
  obtain ⟨a1, c1, rfl, r1⟩ := own_read hc
  obtain ⟨a2, c2, rfl, r2⟩ := own_read hd
  simp only [List.length_map, List.length_range'] at r1 r2 ⊢
  refine ⟨a1, c1, a2, c2, err, fun i => piece (some ⟨g, 0, none⟩) cap (optAt pre C Z i), rfl, herr, ?_, ?_, ?_, hbel⟩
  · intro i hi
    obtain ⟨g1, e1, l1, d1⟩ := r1 i hi
    refine ⟨g1, e1, l1, d1.trans ?_⟩
    rw [bytesOf, List.getElem?_map, List.getElem?_map, range_at k i _ hi]
    rfl
  · intro i hi
    obtain ⟨g1, e1, l1, d1⟩ := r2 i hi
    refine ⟨g1, e1, l1, d1.trans ?_⟩
    rw [List.getElem?_map, range_at k i _ hi]
    rfl
  · intro i hi
    have hlen := whole_length pre C Z P n Y hU
    have hp := pos_succ pre Z i
    have hm := pos_mono pre Z (show i + 1 ≤ n by omega)
    obtain ⟨ap, cp, e1, e2⟩ := piece_form (some ⟨g, 0, none⟩) cap (optAt pre C Z i) (by simp only [optAt]; omega) g (fun _ => rfl)
    refine ⟨ap, cp, e1, fun j hj => ?_⟩
    have e3 := e2 (by simp only [optAt]; omega)
    obtain ⟨g', hg', lg, cg⟩ := hr.at_ (pos pre Z i + 2 + j) (by omega)
    obtain rfl : g' = g := by simpa using hg'.symm
    refine ⟨g', pos pre Z i + 2, e3, Nat.lt_of_lt_of_le lg hbel.size, ?_⟩
    rw [hbel.cell (p := ⟨g', pos pre Z i + 2 + j, none⟩) lg, cg]
    unfold whole
    rw [at_data hU (by omega) j hj]

theorem zz_read2 (F : Interp) (g cap : Nat) (pre C Z P Y : List Int) (n k : Nat) (fl : Bool) (en : Int) (nm : ByteArray) (w : World) (M0 : List Int) (hM0 : whole pre C Z P n Y = M0) (hF : F.answers w.tape) (hU : us Z n ≤ P.length)
    (hr : Rd w w.heap.size (some ⟨g, 0, none⟩) M0) (hcap : M0.length ≤ cap) (hen : en ≤ M0.length) (hk : k ≤ n)
    (hs : spec M0 en.toNat pre.length = ((List.range' 0 k).map (optAt pre C Z), fl)) :
    Calls Tryf.prog 7 #[.slice (some ⟨g, 0, none⟩) M0.length cap, .int .i64 pre.length, .int .i64 en, .string nm] w fun e w' => ∃ a1 c1 a2 c2 err D, e = .returned (.tuple #[.slice a1 k c1, .slice a2 k c2, err]) ∧ Err err fl ∧
      RD w' a1 k (fun i => .int .u8 (C.getD i 0)) ∧ RD w' a2 k D ∧ (∀ i, i < k → Leads w' (D i) (Z.getD i 0).toNat (fun j => P.getD (us Z i + j) 0)) ∧ Below w.heap.size w w' := by
  subst hM0
  exact zz_read F g cap pre C Z P Y n k fl en nm w hF hU hr hcap hen hk hs

/-- An argument's bytes, as the law reads them. -/
theorem IsRow.read {w : World} {a : Option Addr} {n cap : Nat} {zs : List Int} (h : IsRow .u8 w a n cap zs) (i : Nat) (hi : i < n) : ∃ g o, a = some ⟨g, o, none⟩ ∧ g < w.heap.size ∧ w.cell? ⟨g, o + i, none⟩ = some (.int .u8 ((zs.take n).getD i 0)) := by
  rcases h with ⟨_, rfl, _, rfl⟩ | ⟨x, rfl, hl, _, hz, hc, _⟩
  · omega
  · obtain ⟨g, o, sp⟩ := x
    have hsp : sp = none := by simpa [Addr.add] using World.cell?_spot (hc 0 (by omega))
    subst hsp
    have hadd : (⟨g, o, none⟩ : Addr).add i = ⟨g, o + i, none⟩ := by unfold Addr.add; split <;> simp_all
    have h1 := hc i (by omega)
    rw [hadd] at h1
    refine ⟨g, o, rfl, World.block_lt_of_cell? w ⟨g, o + i, none⟩ h1, h1.trans ?_⟩
    rw [List.getD_eq_getElem?_getD, List.getD_eq_getElem?_getD, List.getElem?_take_of_lt hi]
theorem IsRow.byte {w : World} {a : Option Addr} {n cap : Nat} {zs : List Int} (h : IsRow .u8 w a n cap zs) (i : Nat) : 0 ≤ (zs.take n).getD i 0 ∧ (zs.take n).getD i 0 ≤ 255 := by
  rw [List.getD_eq_getElem?_getD]
  cases hx : (zs.take n)[i]? with
  | none => simp
  | some x => exact wf_byte (h.wf x (List.mem_of_mem_take (List.mem_of_getElem? hx)))
theorem IsRow.length {w : World} {a : Option Addr} {n cap : Nat} {zs : List Int} (h : IsRow .u8 w a n cap zs) : (zs.take n).length = n := by
  have := h.len
  simp
  omega
/-- A copy's bytes, as the law reads them. -/
theorem Rd.rd {w : World} {a : Option Addr} {xs : List Int} (h : Rd w w.heap.size a xs) : RD w a xs.length (fun i => .int .u8 (xs.getD i 0)) := h.at_
/-- An owned row of bytes can be read. -/
theorem rd_own {w : World} {B : Nat} {g cap n : Nat} {xs : List Int} (h : w.ownsRow B 5 1 (.slice (some ⟨g, 0, none⟩) n cap) n (bytesOf xs)) (hn : xs.length = n) (hb : ∀ i, 0 ≤ xs.getD i 0 ∧ xs.getD i 0 ≤ 255) (hl : n ≤ 2000000) : Rd w w.heap.size (some ⟨g, 0, none⟩) xs ∧ n ≤ cap := by
  rcases h.2 with ⟨hv, _⟩ | ⟨g', cap', cur, hv, _, hg, hc, _, _, htake⟩
  · cases hv
  · injection hv with h1 _ h3
    simp only [Option.some.injEq, Addr.mk.injEq] at h1
    obtain ⟨rfl, _⟩ := h1
    subst h3
    refine ⟨⟨fun i hi => ⟨g, rfl, blk_lt hg, ?_⟩, hb, by omega⟩, hc⟩
    rw [blk_cell hg]
    have e := congrArg (fun l => l[i]?) htake
    rw [List.getElem?_take_of_lt (by omega)] at e
    have e2 : (bytesOf xs)[i]? = some (.int .u8 (xs.getD i 0)) := by
      rw [bytesOf, List.getElem?_map, List.getD_eq_getElem?_getD, List.getElem?_eq_getElem hi]; rfl
    rw [e2] at e
    simpa using e
theorem make_room2 (n : Nat) (C : Int) (hC : C = n) (hn : n ≤ 2000000) : ∃ M : Array Value, M.size = n ∧ ∀ w : World,
    (Instr.makeSlice 22 (.int .i64 0) (.int .i64 C)).run Tryf.prog w = .ok (.slice (some ⟨w.heap.size, 0, none⟩) 0 n) (w.alloc (.cells M 5)) := by
  subst hC
  obtain ⟨i, hi, hz0, hz1, hz2⟩ := info_parts info5
  refine ⟨madeCells (Value.int .u8 0).cells (n * i.size), by rw [hz1]; simp [madeCells, Value.cells], fun w => (run_make w 22 5 i _ Tryf.underlying22 hi hz0 .i64 .i64 0 n (by omega) (by omega) ?_ (by omega)).trans (by simp)⟩
  rw [hz2]
  omega

theorem mem_byte {l : List Int} (h : ∀ i, 0 ≤ l.getD i 0 ∧ l.getD i 0 ≤ 255) : ∀ x ∈ l, 0 ≤ x ∧ x ≤ 255 := by
  intro x hx
  obtain ⟨i, hi⟩ := List.getElem?_of_mem hx
  have := h i
  rw [List.getD_eq_getElem?_getD, hi] at this
  exact this
theorem byte_mem {l : List Int} (h : ∀ x ∈ l, 0 ≤ x ∧ x ≤ 255) (i : Nat) : 0 ≤ l.getD i 0 ∧ l.getD i 0 ≤ 255 := by
  rw [List.getD_eq_getElem?_getD]
  cases hx : l[i]? with
  | none => simp
  | some x => exact h x (List.mem_of_getElem? hx)
theorem enc_byte {C Z P : List Int} (hC : ∀ i, 0 ≤ C.getD i 0 ∧ C.getD i 0 ≤ 255) (hZ : ∀ i, 0 ≤ Z.getD i 0 ∧ Z.getD i 0 ≤ 255) (hP : ∀ i, 0 ≤ P.getD i 0 ∧ P.getD i 0 ≤ 255) (n : Nat) : ∀ x ∈ enc C Z P n, 0 ≤ x ∧ x ≤ 255 := by
  induction n with
  | zero => intro x hx; cases hx
  | succ n ih =>
    intro x hx
    simp only [enc, List.mem_append] at hx
    rcases hx with hx | hx
    · exact ih x hx
    · simp only [one, List.mem_cons] at hx
      rcases hx with rfl | rfl | hx
      · exact hC n
      · exact hZ n
      · exact mem_byte hP x (List.mem_of_mem_drop (List.mem_of_mem_take hx))
theorem whole_byte {pre C Z P : List Int} (hp : ∀ i, 0 ≤ pre.getD i 0 ∧ pre.getD i 0 ≤ 255) (hC : ∀ i, 0 ≤ C.getD i 0 ∧ C.getD i 0 ≤ 255) (hZ : ∀ i, 0 ≤ Z.getD i 0 ∧ Z.getD i 0 ≤ 255) (hP : ∀ i, 0 ≤ P.getD i 0 ∧ P.getD i 0 ≤ 255) (n u : Nat) (i : Nat) :
    0 ≤ (whole pre C Z P n (P.drop u)).getD i 0 ∧ (whole pre C Z P n (P.drop u)).getD i 0 ≤ 255 := by
  refine byte_mem (fun x hx => ?_) i
  simp only [whole, List.mem_append, List.mem_cons] at hx
  rcases hx with (hx | hx) | rfl | hx
  · exact mem_byte hp x hx
  · exact enc_byte hC hZ hP n x hx
  · omega
  · exact mem_byte hP x (List.mem_of_mem_drop hx)

theorem same_int (kI : Int) (k nC nZ : Nat) (hkI : kI = k) (c1 c2 c3 c4 c5 : Nat) (a1 a2 a3 a4 a5 : Option Addr) (C Z P : List Int) (D : Nat → Value) (w : World)
    (r1 : RD w a1 k (fun i => .int .u8 (C.getD i 0))) (r2 : RD w a2 k D) (r3 : RD w a3 nC (fun i => .int .u8 (C.getD i 0))) (r4 : RD w a4 nZ (fun i => .int .u8 (Z.getD i 0))) (r5 : RD w a5 P.length (fun i => .int .u8 (P.getD i 0)))
    (hk : k ≤ nC) (hk2 : k ≤ nZ) (hz : ∀ i, 0 ≤ Z.getD i 0 ∧ Z.getD i 0 ≤ 255) (hU : us Z k ≤ P.length) (hP : P.length ≤ 2000000) (hk3 : k ≤ 2000000)
    (hD : ∀ i, i < k → Leads w (D i) (Z.getD i 0).toNat (fun j => P.getD (us Z i + j) 0)) :
    Calls Tryf.prog 10 #[.slice a1 k c1, .slice a2 k c2, .slice a3 nC c3, .slice a4 nZ c4, .slice a5 P.length c5, .int .i64 kI] w fun e w' => e = .returned (.bool true) ∧ w'.heap = w.heap ∧ Below w.heap.size w w' := by
  subst hkI
  exact same_any k nC nZ c1 c2 c3 c4 c5 a1 a2 a3 a4 a5 C Z P D w r1 r2 r3 r4 r5 hk hk2 hz hU hP hk3 hD
theorem cmp_eql {err : Value} {f : Bool} (h : Err err f) (w : World) : (binOp .eql 27 err .nilIface).run Tryf.prog w = .ok (.bool !f) w := by
  rcases h with ⟨rfl, rfl⟩ | ⟨⟨q, rfl⟩, rfl⟩
  · kernel_rfl
  · kernel_rfl
end Go.Proofs.Qxb6612485aFmt
