import Derived.Test.Qxb6612396aZzb
import Derived.Test.Qxb6612396aPlain
import Derived.Deep.RegionHeld3
import Derived.StillTactics
import Derived.Laws.Pointers
import Derived.RowKit3
namespace Go.Proofs.Qxb6612396a
open Go.RowKit

/-- What lies there, as the law's walk goes on: the boxes of the two arguments, the first two blocks behind the world w0 in which the call began; below them nothing has turned. -/
abbrev S2 (w0 : World) (F G : Array Value) (w : World) : Prop := (∀ i, w.cell? ⟨w0.heap.size, i, none⟩ = F[i]?) ∧ (∀ i, w.cell? ⟨w0.heap.size + 1, i, none⟩ = G[i]?) ∧ w0.heap.size + 2 ≤ w.heap.size ∧ Below w0.heap.size w0 w
theorem S2.below {w0 : World} {F G : Array Value} {w w' : World} (h : S2 w0 F G w) (hb : Below w.heap.size w w') : S2 w0 F G w' := by
  obtain ⟨h1, h2, h3, h4⟩ := h
  exact ⟨fun i => (hb.cell (p := ⟨w0.heap.size, i, none⟩) (by show w0.heap.size < _; omega)).trans (h1 i), fun i => (hb.cell (p := ⟨w0.heap.size + 1, i, none⟩) (by show w0.heap.size + 1 < _; omega)).trans (h2 i), Nat.le_trans h3 hb.size, h4.trans (hb.mono (by omega))⟩
theorem S2.drew {w0 : World} {F G : Array Value} {w : World} (h : S2 w0 F G w) : S2 w0 F G w.drew := ⟨h.1, h.2.1, h.2.2.1, h.2.2.2.drew⟩
/-- .. and two more, from block D on. -/
abbrev S4 (w0 : World) (D : Nat) (F G M N : Array Value) (w : World) : Prop := (∀ i, w.cell? ⟨w0.heap.size, i, none⟩ = F[i]?) ∧ (∀ i, w.cell? ⟨w0.heap.size + 1, i, none⟩ = G[i]?) ∧ (∀ i, w.cell? ⟨D, i, none⟩ = M[i]?) ∧ (∀ i, w.cell? ⟨D + 1, i, none⟩ = N[i]?) ∧ w0.heap.size + 2 ≤ w.heap.size ∧ D + 2 ≤ w.heap.size ∧ Below w0.heap.size w0 w
theorem S4.below {w0 : World} {D : Nat} {F G M N : Array Value} {w w' : World} (h : S4 w0 D F G M N w) (hb : Below w.heap.size w w') : S4 w0 D F G M N w' := by
  obtain ⟨h1, h2, h3, h4, h5, h6, h7⟩ := h
  exact ⟨fun i => (hb.cell (p := ⟨w0.heap.size, i, none⟩) (by show w0.heap.size < _; omega)).trans (h1 i), fun i => (hb.cell (p := ⟨w0.heap.size + 1, i, none⟩) (by show w0.heap.size + 1 < _; omega)).trans (h2 i),
    fun i => (hb.cell (p := ⟨D, i, none⟩) (by show D < _; omega)).trans (h3 i), fun i => (hb.cell (p := ⟨D + 1, i, none⟩) (by show D + 1 < _; omega)).trans (h4 i), Nat.le_trans h5 hb.size, Nat.le_trans h6 hb.size, h7.trans (hb.mono (by omega))⟩
theorem S4.drew {w0 : World} {D : Nat} {F G M N : Array Value} {w : World} (h : S4 w0 D F G M N w) : S4 w0 D F G M N w.drew := ⟨h.1, h.2.1, h.2.2.1, h.2.2.2.1, h.2.2.2.2.1, h.2.2.2.2.2.1, h.2.2.2.2.2.2.drew⟩
theorem cell_new (w : World) (c : Array Value) (t : TypeId) (i : Nat) : (w.alloc (.cells c t)).cell? ⟨w.heap.size, i, none⟩ = c[i]? := by
  have h : (w.alloc (.cells c t)).heap[w.heap.size]? = some (.cells c t) := heap_alloc_new w (.cells c t)
  unfold World.cell?
  rw [h]
  rfl
theorem cell_old (w : World) (o : Obj) (b i : Nat) (h : b < w.heap.size) : (w.alloc o).cell? ⟨b, i, none⟩ = w.cell? ⟨b, i, none⟩ :=
  World.cell?_of_block (w := w) (Below.heap_alloc w o b h)
theorem cell_new2 (w : World) (o : Obj) (c : Array Value) (t : TypeId) (i : Nat) : ((w.alloc o).alloc (.cells c t)).cell? ⟨w.heap.size + 1, i, none⟩ = c[i]? := by
  have h := cell_new (w.alloc o) c t i
  have e : (w.alloc o).heap.size = w.heap.size + 1 := by simp
  rw [e] at h
  exact h
theorem S2.start (w : World) (F G : Array Value) : S2 w F G ((w.alloc (.cells F 23)).alloc (.cells G 23)) :=
  ⟨fun i => (cell_old _ _ _ _ (by simp)).trans (cell_new w F 23 i), fun i => cell_new2 w _ G 23 i, by simp, ((Below.refl _ _).alloc (Nat.le_refl _) _).alloc (by simp) _⟩
theorem S4.start {w0 : World} {F G : Array Value} {w : World} (h : S2 w0 F G w) (M N : Array Value) : S4 w0 w.heap.size F G M N ((w.alloc (.cells M 23)).alloc (.cells N 23)) := by
  have k := S2.start w M N
  have j := h.below k.2.2.2
  exact ⟨j.1, j.2.1, k.1, k.2.1, j.2.2.1, k.2.2.1, j.2.2.2⟩

theorem text_b (s0 s1 s2 s3 s4 s5 s6 s7 : ByteArray) (q0 q1 : Bool) (a0 a1 a2 a3 a4 : Int) (w : World)
    (h : s0.size + s1.size + s2.size + s3.size + s4.size + s5.size + s6.size + s7.size ≤ 1048576) :
    Calls Try.prog 5 #[.agg #[.string s0, .string s1, .string s2, .string s3, .string s4, .string s5, .string s6, .string s7, .bool q0, .bool q1, .int .i64 a0, .int .i64 a1, .int .i64 a2, .int .i64 a3, .int .i64 a4]] w fun e w' => 
     e = .returned (.int .i64 (tl s0 s1 s2 s3 s4 s5 s6 s7)) ∧ Below w.heap.size w w' := by
  refine (text_any s0 s1 s2 s3 s4 s5 s6 s7 q0 q1 a0 a1 a2 a3 a4 w (by omega) (by omega) (by omega) (by omega) (by omega) (by omega) (by omega) (by omega)).mono ?_
  rintro e w' ⟨rfl, c, rfl⟩
  exact ⟨rfl, (Below.refl _ _).alloc (Nat.le_refl _) _⟩
theorem build_b (s0 s1 s2 s3 s4 s5 s6 s7 : ByteArray) (q0 q1 : Bool) (a0 a1 a2 a3 a4 : Int) (w : World) :
    Calls Try.prog 6 #[.agg #[.string s0, .string s1, .string s2, .string s3, .string s4, .string s5, .string s6, .string s7, .bool q0, .bool q1, .int .i64 a0, .int .i64 a1, .int .i64 a2, .int .i64 a3, .int .i64 a4]] w fun e w' => 
     e = .returned (.pointer (some ⟨w.heap.size+1, 0, none⟩)) ∧ Below w.heap.size w w' ∧ w'.cell? ⟨w.heap.size+1, 11, none⟩ = some (.int .i64 a0) ∧ w'.cell? ⟨w.heap.size+1, 12, none⟩ = some (.int .i64 a1) ∧ w'.cell? ⟨w.heap.size+1, 13, none⟩ = some (.int .i64 a2)
       ∧ w'.cell? ⟨w.heap.size+1, 14, none⟩ = some (.int .i64 a3) ∧ w'.cell? ⟨w.heap.size+1, 15, none⟩ = some (.int .i64 a4) := by
  refine (build_any s0 s1 s2 s3 s4 s5 s6 s7 q0 q1 a0 a1 a2 a3 a4 w).mono ?_
  rintro e w' ⟨rfl, c1, c2, rfl, e0, e1, e2, e3, e4⟩
  have kk : ∀ i, ((w.alloc (.cells c1 23)).alloc (.cells c2 34)).cell? ⟨w.heap.size + 1, i, none⟩ = c2[i]? := fun i => cell_new2 w _ c2 34 i
  exact ⟨rfl, ((Below.refl _ _).alloc (Nat.le_refl _) _).alloc (by simp) _, (kk _).trans e0, (kk _).trans e1, (kk _).trans e2, (kk _).trans e3, (kk _).trans e4⟩
theorem params_b (b : Nat) (a0 a1 a2 a3 a4 : Int) (w : World)
    (h0 : w.cell? ⟨b, 11, none⟩ = some (.int .i64 a0)) (h1 : w.cell? ⟨b, 12, none⟩ = some (.int .i64 a1)) (h2 : w.cell? ⟨b, 13, none⟩ = some (.int .i64 a2))
    (h3 : w.cell? ⟨b, 14, none⟩ = some (.int .i64 a3)) (h4 : w.cell? ⟨b, 15, none⟩ = some (.int .i64 a4)) :
    Calls Try.prog 7 #[.pointer (some ⟨b, 0, none⟩)] w fun e w' => e = .returned (.int .i64 (psum a0 a1 a2 a3 a4)) ∧ Below w.heap.size w w' := by
  refine (params_any b a0 a1 a2 a3 a4 w h0 h1 h2 h3 h4).mono ?_
  rintro e w' ⟨rfl, n, rfl⟩
  exact ⟨rfl, rfl, rfl, rfl, Nat.le_refl _, fun _ _ => rfl⟩

set_option maxRecDepth 100000 in
set_option maxHeartbeats 4000000 in
theorem law_any (s0 s1 s2 s3 s4 s5 s6 s7 : ByteArray) (q0 q1 : Bool) (a0 a1 a2 a3 a4 : Int)
   (t0 t1 t2 t3 t4 t5 t6 t7 : ByteArray) (p0 p1 : Bool) (b0 b1 b2 b3 b4 : Int) (w : World) :
    Calls Try.prog 3 #[.agg #[.string s0, .string s1, .string s2, .string s3, .string s4, .string s5, .string s6, .string s7, .bool q0, .bool q1, .int .i64 a0, .int .i64 a1, .int .i64 a2, .int .i64 a3, .int .i64 a4],
      .agg #[.string t0, .string t1, .string t2, .string t3, .string t4, .string t5, .string t6, .string t7, .bool p0, .bool p1, .int .i64 b0, .int .i64 b1, .int .i64 b2, .int .i64 b3, .int .i64 b4]] w fun e w' =>
      e = .returned (.bool true) ∧ Below w.heap.size w w' := by
  go_enter Try.func3, Try.ntmps3
  go_wp2_with fail
  refine (zzb_any _ _ _ _ _ _ _ _ _ _ _ _ _ _ _ _ _ _ _ _ _ _ _ _ _ _ _ _ _ _ _).mono ?_
  rintro e w' ⟨r, rfl, hr, c1, c2, rfl⟩
  have hb0 : Below ((w.alloc (.cells #[.string s0, .string s1, .string s2, .string s3, .string s4, .string s5, .string s6, .string s7, .bool q0, .bool q1, .int .i64 a0, .int .i64 a1, .int .i64 a2, .int .i64 a3, .int .i64 a4] 23)).alloc (.cells #[.string t0, .string t1, .string t2, .string t3, .string t4, .string t5, .string t6, .string t7, .bool p0, .bool p1, .int .i64 b0, .int .i64 b1, .int .i64 b2, .int .i64 b3, .int .i64 b4] 23)).heap.size ((w.alloc (.cells #[.string s0, .string s1, .string s2, .string s3, .string s4, .string s5, .string s6, .string s7, .bool q0, .bool q1, .int .i64 a0, .int .i64 a1, .int .i64 a2, .int .i64 a3, .int .i64 a4] 23)).alloc (.cells #[.string t0, .string t1, .string t2, .string t3, .string t4, .string t5, .string t6, .string t7, .bool p0, .bool p1, .int .i64 b0, .int .i64 b1, .int .i64 b2, .int .i64 b3, .int .i64 b4] 23)) ((((w.alloc (.cells #[.string s0, .string s1, .string s2, .string s3, .string s4, .string s5, .string s6, .string s7, .bool q0, .bool q1, .int .i64 a0, .int .i64 a1, .int .i64 a2, .int .i64 a3, .int .i64 a4] 23)).alloc (.cells #[.string t0, .string t1, .string t2, .string t3, .string t4, .string t5, .string t6, .string t7, .bool p0, .bool p1, .int .i64 b0, .int .i64 b1, .int .i64 b2, .int .i64 b3, .int .i64 b4] 23)).alloc (.cells c1 23)).alloc (.cells c2 23)) := ((Below.refl _ _).alloc (Nat.le_refl _) _).alloc (by simp) _
  have hS0 := (S2.start w #[.string s0, .string s1, .string s2, .string s3, .string s4, .string s5, .string s6, .string s7, .bool q0, .bool q1, .int .i64 a0, .int .i64 a1, .int .i64 a2, .int .i64 a3, .int .i64 a4] #[.string t0, .string t1, .string t2, .string t3, .string t4, .string t5, .string t6, .string t7, .bool p0, .bool p1, .int .i64 b0, .int .i64 b1, .int .i64 b2, .int .i64 b3, .int .i64 b4]).below hb0
  clear hb0
  generalize ((((w.alloc (.cells #[.string s0, .string s1, .string s2, .string s3, .string s4, .string s5, .string s6, .string s7, .bool q0, .bool q1, .int .i64 a0, .int .i64 a1, .int .i64 a2, .int .i64 a3, .int .i64 a4] 23)).alloc (.cells #[.string t0, .string t1, .string t2, .string t3, .string t4, .string t5, .string t6, .string t7, .bool p0, .bool p1, .int .i64 b0, .int .i64 b1, .int .i64 b2, .int .i64 b3, .int .i64 b4] 23)).alloc (.cells c1 23)).alloc (.cells c2 23)) = W at *
  cases r with
  | false =>
    clear hr
    go_wp2_with fail
    go_ret
    exact ⟨rfl, hS0.2.2.2⟩
  | true =>
    have hs := hr rfl
    clear hr
    have k1 : 0 ≤ tl s0 s1 s2 s3 s4 s5 s6 s7 := by unfold tl; omega
    have k2 : 0 ≤ tl t0 t1 t2 t3 t4 t5 t6 t7 := by unfold tl; omega
    have k3 : tl s0 s1 s2 s3 s4 s5 s6 s7 + tl t0 t1 t2 t3 t4 t5 t6 t7 ≤ 1048576 := by unfold tl; omega
    have d1 : decide (1048576 < tl s0 s1 s2 s3 s4 s5 s6 s7) = false := decide_eq_false (by omega)
    have d2 : decide (1048576 < tl t0 t1 t2 t3 t4 t5 t6 t7) = false := decide_eq_false (by omega)
    have d3 : decide (1048576 < tl s0 s1 s2 s3 s4 s5 s6 s7 + tl t0 t1 t2 t3 t4 t5 t6 t7) = false := decide_eq_false (by omega)
    have d4 : IntKind.i64.wrap (tl s0 s1 s2 s3 s4 s5 s6 s7 + tl t0 t1 t2 t3 t4 t5 t6 t7) = tl s0 s1 s2 s3 s4 s5 s6 s7 + tl t0 t1 t2 t3 t4 t5 t6 t7 := by simp [IntKind.wrap, IntKind.signed, IntKind.bits]; omega
    go_wp2_with fail
    go_region_held3 (fun w' => S2 w #[.string s0, .string s1, .string s2, .string s3, .string s4, .string s5, .string s6, .string s7, .bool q0, .bool q1, .int .i64 a0, .int .i64 a1, .int .i64 a2, .int .i64 a3, .int .i64 a4] #[.string t0, .string t1, .string t2, .string t3, .string t4, .string t5, .string t6, .string t7, .bool p0, .bool p1, .int .i64 b0, .int .i64 b1, .int .i64 b2, .int .i64 b3, .int .i64 b4] w') (first | exact hS0.drew | exact S2.below (by assumption) (by assumption))
      ((go_at_call 5; refine (text_b _ _ _ _ _ _ _ _ _ _ _ _ _ _ _ _ (by omega)).mono ?_; rintro e w' ⟨rfl, hb⟩))
    rename_i hH
    clear hb hS0 d1 d2 d3 d4 k1 k2 k3
    as_aux_lemma =>
      obtain ⟨g1, g2, g3, g4⟩ := hH
      have g5 : w.heap.size < w'.heap.size := by omega
      have g6 : w.heap.size + 1 < w'.heap.size := by omega
      go_wp2_with fail
      have hS4 := S4.start ⟨g1, g2, g3, g4⟩ #[.string t0, .string t1, .string t2, .string t3, .string t4, .string t5, .string t6, .string t7, .bool p0, .bool p1, .int .i64 (wrap64 (a0 + b0)), .int .i64 (wrap64 (a1 + b1)), .int .i64 (wrap64 (a2 + b2)), .int .i64 (wrap64 (a3 + b3)), .int .i64 (wrap64 (a4 + b4))] #[.string { data := #[] }, .string { data := #[] }, .string { data := #[] }, .string { data := #[] }, .string { data := #[] }, .string { data := #[] }, .string { data := #[] }, .string { data := #[] }, .bool false, .bool false, .int .i64 1, .int .i64 1, .int .i64 1, .int .i64 1, .int .i64 1]
      clear g1 g2 g3 g4 g5 g6
      generalize ((w'.alloc (.cells #[.string t0, .string t1, .string t2, .string t3, .string t4, .string t5, .string t6, .string t7, .bool p0, .bool p1, .int .i64 (wrap64 (a0 + b0)), .int .i64 (wrap64 (a1 + b1)), .int .i64 (wrap64 (a2 + b2)), .int .i64 (wrap64 (a3 + b3)), .int .i64 (wrap64 (a4 + b4))] 23)).alloc (.cells #[.string { data := #[] }, .string { data := #[] }, .string { data := #[] }, .string { data := #[] }, .string { data := #[] }, .string { data := #[] }, .string { data := #[] }, .string { data := #[] }, .bool false, .bool false, .int .i64 1, .int .i64 1, .int .i64 1, .int .i64 1, .int .i64 1] 23)) = V at *
      generalize w'.heap.size = D at *
      as_aux_lemma =>
        have hE := psum_adds a0 a1 a2 a3 a4 b0 b1 b2 b3 b4
        have hO := psum_ones
        have hE2 : IntKind.i64.wrap (psum a0 a1 a2 a3 a4 + psum b0 b1 b2 b3 b4) = wrap64 (psum a0 a1 a2 a3 a4 + psum b0 b1 b2 b3 b4) := by simp [IntKind.wrap, IntKind.signed, IntKind.bits, wrap64]; omega
        go_region_held3 (fun w' => S4 w D #[.string s0, .string s1, .string s2, .string s3, .string s4, .string s5, .string s6, .string s7, .bool q0, .bool q1, .int .i64 a0, .int .i64 a1, .int .i64 a2, .int .i64 a3, .int .i64 a4] #[.string t0, .string t1, .string t2, .string t3, .string t4, .string t5, .string t6, .string t7, .bool p0, .bool p1, .int .i64 b0, .int .i64 b1, .int .i64 b2, .int .i64 b3, .int .i64 b4] #[.string t0, .string t1, .string t2, .string t3, .string t4, .string t5, .string t6, .string t7, .bool p0, .bool p1, .int .i64 (wrap64 (a0 + b0)), .int .i64 (wrap64 (a1 + b1)), .int .i64 (wrap64 (a2 + b2)), .int .i64 (wrap64 (a3 + b3)), .int .i64 (wrap64 (a4 + b4))] #[.string { data := #[] }, .string { data := #[] }, .string { data := #[] }, .string { data := #[] }, .string { data := #[] }, .string { data := #[] }, .string { data := #[] }, .string { data := #[] }, .bool false, .bool false, .int .i64 1, .int .i64 1, .int .i64 1, .int .i64 1, .int .i64 1] w') (first | exact hS4.drew | exact S4.below (by assumption) (by assumption))
          (first
           | (go_at_call 6; refine (build_b _ _ _ _ _ _ _ _ _ _ _ _ _ _ _ _).mono ?_; rintro e w' ⟨rfl, hb, e0, e1, e2, e3, e4⟩)
           | (go_at_call 7; refine (params_b _ _ _ _ _ _ _ (by assumption) (by assumption) (by assumption) (by assumption) (by assumption)).mono ?_; rintro e w' ⟨rfl, hb⟩))
        rename_i hH
        go_wp2_with fail
        go_ret
        exact ⟨rfl, hH.2.2.2.2.2.2⟩
end Go.Proofs.Qxb6612396a
