import Derived.Test.Qxb6612394aZzb
namespace Go.Proofs.Qxb6612394a
open Go.RowKit Go.Maps

theorem own_typ {w : World} {B size n : Nat} {e : TypeId} {v : Value} {xs : List Value} (h : w.ownsRow B e size v n xs) {g : Nat} (hg : v.ownBlock = some g) : ∃ cur, w.heap[g]? = some (.cells cur e (0, 0)) := by
  rcases h.2 with ⟨rfl, _⟩ | ⟨g', cap, cur, rfl, _, hb, _⟩
  · cases hg
  · simp only [Value.ownBlock, Option.some.injEq] at hg
    subst hg
    exact ⟨cur, hb⟩
theorem typ_ne {w : World} {g g' : Nat} {c c' : Array Value} {t t' : TypeId} (h : w.heap[g]? = some (.cells c t (0, 0))) (h' : w.heap[g']? = some (.cells c' t' (0, 0))) (ht : t ≠ t') : g ≠ g' := by
  rintro rfl
  rw [h] at h'
  simp only [Option.some.injEq, Obj.cells.injEq] at h'
  exact ht h'.2.1

section
variable {B cb mb : Nat} {w w3 : World} {n : Nat} {hs : List ByteArray} {ss ms : List Rw} {vh : Value}

/-- A stack is turned, and its new value is stored in the list of stacks. -/
theorem restack (C : Cs B cb mb w n hs ss ms) (ho : w.ownsRow B 9 1 vh hs.length (strsOf hs)) {gs cp : Nat} (hst : w.ownsRow B 34 1 (.slice (some ⟨gs, 0, none⟩) ss.length cp) ss.length (ss.map rowVal))
    {k : Nat} {s s' : Rw} (hk : ss[k]? = some s) (hg : w.grownBy w3 (some s.g)) (hr : Row w3 B s') (hgs : s'.g = s.g ∨ w.heap.size ≤ s'.g) :
    Cs B cb mb (w3.setCell ⟨gs, k, none⟩ (rowVal s')) n hs (ss.set k s') ms ∧ (w3.setCell ⟨gs, k, none⟩ (rowVal s')).ownsRow B 9 1 vh hs.length (strsOf hs) ∧
      (w3.setCell ⟨gs, k, none⟩ (rowVal s')).ownsRow B 34 1 (.slice (some ⟨gs, 0, none⟩) ss.length cp) ss.length ((ss.set k s').map rowVal) := by
  have hkl : k < ss.length := (List.getElem?_eq_some_iff.1 hk).1
  have hrow : Row w B s := C.rows.own s (List.mem_append_left _ (List.mem_of_getElem? hk))
  obtain ⟨_, _, cs0, hcs⟩ := hrow.cap
  obtain ⟨cg, hcg⟩ := own_typ hst (g := gs) rfl
  have hgsB := (hst.lt gs rfl).1
  have hgl := blk_lt hcg
  have hne : gs ≠ s.g := typ_ne hcg hcs (by decide)
  have hcg3 : w3.heap[gs]? = some (.cells cg 34 (0, 0)) := (hg.block gs hgl (by simpa using hne)).trans hcg
  have hcB := C.cB
  have hmB := C.mB
  -- what stays through both
  have stay : ∀ g, g < w.heap.size → g ≠ s.g → g ≠ gs → (w3.setCell ⟨gs, k, none⟩ (rowVal s')).heap[g]? = w.heap[g]? := fun g h1 h2 h3 =>
    (heap_set _ _ _ _ h3).trans (hg.block g h1 (by simpa using h2))
  have hst3 : w3.ownsRow B 34 1 (.slice (some ⟨gs, 0, none⟩) ss.length cp) ss.length (ss.map rowVal) := own_keep hst (fun g e => by
    simp only [Value.ownBlock, Option.some.injEq] at e
    subst e
    exact hg.block gs hgl (by simpa using hne))
  obtain ⟨f, m1, m2, m3⟩ := C.map
  have hrs : Row (w3.setCell ⟨gs, k, none⟩ (rowVal s')) B s' := by
    refine hr.keep (heap_set _ _ _ _ ?_)
    obtain ⟨_, _, cu, hcu⟩ := hr.cap
    exact typ_ne hcu hcg3 (by decide)
  have hB1 := hrow.lt.1
  refine ⟨⟨(stay cb (blk_lt C.blk) (by omega) (by omega)).trans C.blk, ⟨f, m1.kept (stay mb m1.lt (by omega) (by omega)), m2, m3⟩, ?_, C.len, C.nodup, C.ne, C.cB, C.mB, by rw [size_set]; exact Nat.le_trans C.Bw hg.size⟩, ?_, ?_⟩
  · rw [← List.set_append_left _ _ hkl]
    refine C.rows.set (r := s) (by rw [List.getElem?_append_left hkl]; exact hk) (fun q hq hqs => stay q.g (C.rows.own q hq).lt.2 hqs ?_) hrs hgs
    obtain ⟨_, _, cu, hcu⟩ := (C.rows.own q hq).cap
    exact typ_ne hcu hcg (by decide)
  · refine own_keep ho (fun g e => ?_)
    obtain ⟨cu, hcu⟩ := own_typ ho e
    exact stay g (blk_lt hcu) (typ_ne hcu hcs (by decide)) (typ_ne hcu hcg (by decide))
  · have := (hst3.stored k (rowVal s')).1
    rw [List.map_set]
    exact this
end

theorem own_kept2 {w w' : World} {B mb n : Nat} {row : Option Nat} {e : TypeId} {v : Value} {xs : List Value} (h : w.ownsRow B e 1 v n xs) (hK : Kept2 w w' mb row) (he : e ≠ 31) (hmB : mb < B) (hrow : ∀ g, row = some g → ∃ cu, w.heap[g]? = some (.cells cu 31 (0, 0))) : w'.ownsRow B e 1 v n xs :=
  own_keep h (fun g hg => by
    obtain ⟨cu, hcu⟩ := own_typ h hg
    refine hK.block g (blk_lt hcu) (by have := (h.lt g hg).1; omega) (fun e2 => ?_)
    obtain ⟨cu', hcu'⟩ := hrow g e2.symm
    exact typ_ne hcu hcu' he rfl)
theorem Kept2.low {w w' w0 : World} {mb B0 : Nat} {row : Option Nat} (hK : Kept2 w w' mb row) (hb : Below B0 w0 w) (hm : B0 ≤ mb) (hB : B0 ≤ w.heap.size) (hrow : ∀ g, row = some g → B0 ≤ g) : Below B0 w0 w' :=
  ⟨hK.os.trans hb.os, hK.tape.trans hb.tape, hK.output.trans hb.output, Nat.le_trans hb.size hK.size, fun k hk => (hK.block k (by omega) (by omega) (fun e => by have := hrow k e.symm; omega)).trans (hb.block k hk)⟩

/-- THE LAW's STATE behind i steps. -/
structure LI (B0 : Nat) (w0 w : World) (i n : Nat) (hs : List ByteArray) (ss ms : List Rw) (vh vs : Value) : Prop where
  cs : Cs (B0 + 2) (B0 + 1) B0 w n hs ss ms
  hosts : w.ownsRow (B0 + 2) 9 1 vh hs.length (strsOf hs)
  stacks : w.ownsRow (B0 + 2) 34 1 vs ss.length (ss.map rowVal)
  same : ss.map (fun r => r.l) = ms.map (fun r => r.l)
  few : hs.length ≤ i
  num : n ≤ i
  short : ∀ r ∈ ms, r.l.length ≤ i
  names : ∀ h ∈ hs, h.size ≤ 1048576
  below : Below B0 w0 w

theorem LI.lens {B0 : Nat} {w0 w : World} {i n : Nat} {hs : List ByteArray} {ss ms : List Rw} {vh vs : Value} (h : LI B0 w0 w i n hs ss ms vh vs) : ss.length = hs.length ∧ ms.length = hs.length := by
  have := congrArg List.length h.same
  simp at this
  have := h.cs.len
  omega
/-- The two rows of a host that is known. -/
theorem LI.rowsAt {B0 : Nat} {w0 w : World} {i n : Nat} {hs : List ByteArray} {ss ms : List Rw} {vh vs : Value} (h : LI B0 w0 w i n hs ss ms vh vs) {k : Nat} (hk : k < hs.length) : ∃ s r : Rw, ss[k]? = some s ∧ ms[k]? = some r ∧ s.l = r.l := by
  obtain ⟨l1, l2⟩ := h.lens
  refine ⟨ss[k]'(by omega), ms[k]'(by omega), List.getElem?_eq_getElem _, List.getElem?_eq_getElem _, ?_⟩
  have := congrArg (fun l => l[k]?) h.same
  simp only [List.getElem?_map] at this
  rw [List.getElem?_eq_getElem (by omega), List.getElem?_eq_getElem (by omega)] at this
  simpa using this
theorem map_set_l (ss ms : List Rw) (k : Nat) (s r : Rw) (h : ss.map (fun r => r.l) = ms.map (fun r => r.l)) (hl : s.l = r.l) : (ss.set k s).map (fun r => r.l) = (ms.set k r).map (fun r => r.l) := by
  rw [List.map_set, List.map_set, h, hl]
/-- New blocks alone. -/
theorem LI.grow {B0 : Nat} {w0 w w' : World} {i n : Nat} {hs : List ByteArray} {ss ms : List Rw} {vh vs : Value} (h : LI B0 w0 w i n hs ss ms vh vs) (hb : Below w.heap.size w w') : LI B0 w0 w' i n hs ss ms vh vs :=
  ⟨h.cs.keep (fun k hk => hb.block k hk) hb.size, own_keep h.hosts (fun g e => hb.block g (h.hosts.lt g e).2), own_keep h.stacks (fun g e => hb.block g (h.stacks.lt g e).2), h.same, h.few, h.num, h.short, h.names, h.below.trans (hb.mono (by have := h.cs.Bw; omega))⟩
end Go.Proofs.Qxb6612394a
