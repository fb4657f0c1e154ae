import Derived.Test.Qxb6612394aMore
namespace Go.Proofs.Qxb6612394a
open Go.RowKit Go.Maps

/-- How many connections are kept in all. -/
def tot (ms : List Rw) : Nat := (ms.map (fun r => r.l.length)).sum
theorem tot_set {ms : List Rw} {k : Nat} {r r' : Rw} (hr : ms[k]? = some r) (h : r'.l.length + 1 = r.l.length) : tot (ms.set k r') + 1 = tot ms := by
  induction ms generalizing k with
  | nil => simp at hr
  | cons q t ih =>
    cases k with
    | zero =>
      simp at hr
      subst hr
      simp [tot]
      omega
    | succ k =>
      have := ih (k := k) (by simpa using hr)
      simp [tot] at this ⊢
      omega
theorem tot_le (ms : List Rw) (m : Nat) (h : ∀ r ∈ ms, r.l.length ≤ m) : tot ms ≤ ms.length * m := by
  induction ms with
  | nil => simp [tot]
  | cons q t ih =>
    have h1 := ih (fun r hr => h r (List.mem_cons_of_mem _ hr))
    have h2 := h q (List.mem_cons_self ..)
    simp [tot] at h1 ⊢
    rw [Nat.add_mul]
    omega

/-- THE STATE AS THE HOSTS ARE DRAINED. -/
structure DI (B0 : Nat) (w0 w : World) (n : Nat) (hs : List ByteArray) (ss ms : List Rw) (vh vs : Value) : Prop where
  cs : Cs (B0 + 2) (B0 + 1) B0 w n hs ss ms
  hosts : w.ownsRow (B0 + 2) 9 1 vh hs.length (strsOf hs)
  stacks : w.ownsRow (B0 + 2) 34 1 vs ss.length (ss.map rowVal)
  same : ss.map (fun r => r.l) = ms.map (fun r => r.l)
  few : hs.length ≤ 4096
  num : n + tot ms ≤ 20000000
  short : ∀ r ∈ ms, r.l.length ≤ 4096
  names : ∀ h ∈ hs, h.size ≤ 1048576
  below : Below B0 w0 w

theorem DI.start {B0 : Nat} {w0 w : World} {i n : Nat} {hs : List ByteArray} {ss ms : List Rw} {vh vs : Value} (h : LI B0 w0 w i n hs ss ms vh vs) (hi : i ≤ 4096) : DI B0 w0 w n hs ss ms vh vs := by
  have h1 := h.few
  have h2 := h.num
  have h3 := h.cs.len
  have h4 : ∀ r ∈ ms, r.l.length ≤ 4096 := fun r hr => Nat.le_trans (h.short r hr) hi
  have h5 := tot_le ms 4096 h4
  have h6 : ms.length * 4096 ≤ 4096 * 4096 := Nat.mul_le_mul_right _ (by omega)
  exact ⟨h.cs, h.hosts, h.stacks, h.same, by omega, by omega, h4, h.names, h.below⟩
theorem DI.lens {B0 : Nat} {w0 w : World} {n : Nat} {hs : List ByteArray} {ss ms : List Rw} {vh vs : Value} (h : DI B0 w0 w n hs ss ms vh vs) : ss.length = hs.length ∧ ms.length = hs.length := by
  have := congrArg List.length h.same
  simp at this
  have := h.cs.len
  omega
theorem DI.rowsAt {B0 : Nat} {w0 w : World} {n : Nat} {hs : List ByteArray} {ss ms : List Rw} {vh vs : Value} (h : DI B0 w0 w n hs ss ms vh vs) {k : Nat} (hk : k < hs.length) : ∃ s r : Rw, ss[k]? = some s ∧ ms[k]? = some r ∧ s.l = r.l := by
  obtain ⟨l1, l2⟩ := h.lens
  refine ⟨ss[k]'(by omega), ms[k]'(by omega), List.getElem?_eq_getElem _, List.getElem?_eq_getElem _, ?_⟩
  have := congrArg (fun l => l[k]?) h.same
  simp only [List.getElem?_map] at this
  rw [List.getElem?_eq_getElem (by omega), List.getElem?_eq_getElem (by omega)] at this
  simpa using this
end Go.Proofs.Qxb6612394a
