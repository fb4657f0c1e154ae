/-
  PLAIN: no Go in sight. What a field of options holds: the options in their order (code, where the data begins, how many bytes), and whether the field ends within an option.
-/
namespace Go.Proofs.Qxb6612485aFmt

abbrev Opt := Int × Nat × Nat

def spec (xs : List Int) (e p : Nat) : List Opt × Bool :=
  if p < e then
    if xs.getD p 0 = 0 then spec xs e (p + 1)
    else if xs.getD p 0 = 255 then ([], false)
    else if p + 1 = e then ([], true)
    else if e < p + 2 + (xs.getD (p + 1) 0).toNat then ([], true)
    else ((xs.getD p 0, p + 2, (xs.getD (p + 1) 0).toNat) :: (spec xs e (p + 2 + (xs.getD (p + 1) 0).toNat)).1, (spec xs e (p + 2 + (xs.getD (p + 1) 0).toNat)).2)
  else ([], false)
termination_by e - p

theorem spec_done {xs : List Int} {e p : Nat} (h : ¬ p < e) : spec xs e p = ([], false) := by
  rw [spec, if_neg h]
theorem spec_pad {xs : List Int} {e p : Nat} (h : p < e) (h0 : xs.getD p 0 = 0) : spec xs e p = spec xs e (p + 1) := by
  rw [spec, if_pos h, if_pos h0]
theorem spec_end {xs : List Int} {e p : Nat} (h : p < e) (h0 : xs.getD p 0 = 255) : spec xs e p = ([], false) := by
  rw [spec, if_pos h, if_neg (by omega), if_pos h0]
theorem spec_nolen {xs : List Int} {e p : Nat} (h : p < e) (h0 : xs.getD p 0 ≠ 0) (h1 : xs.getD p 0 ≠ 255) (h2 : p + 1 = e) : spec xs e p = ([], true) := by
  rw [spec, if_pos h, if_neg h0, if_neg h1, if_pos h2]
theorem spec_short {xs : List Int} {e p : Nat} (h : p < e) (h0 : xs.getD p 0 ≠ 0) (h1 : xs.getD p 0 ≠ 255) (h2 : p + 1 ≠ e) (h3 : e < p + 2 + (xs.getD (p + 1) 0).toNat) : spec xs e p = ([], true) := by
  rw [spec, if_pos h, if_neg h0, if_neg h1, if_neg h2, if_pos h3]
theorem spec_opt {xs : List Int} {e p : Nat} (h : p < e) (h0 : xs.getD p 0 ≠ 0) (h1 : xs.getD p 0 ≠ 255) (h2 : p + 1 ≠ e) (h3 : ¬ e < p + 2 + (xs.getD (p + 1) 0).toNat) :
    spec xs e p = ((xs.getD p 0, p + 2, (xs.getD (p + 1) 0).toNat) :: (spec xs e (p + 2 + (xs.getD (p + 1) 0).toNat)).1, (spec xs e (p + 2 + (xs.getD (p + 1) 0).toNat)).2) := by
  rw [spec, if_pos h, if_neg h0, if_neg h1, if_neg h2, if_neg h3]

/-- 'What is done, and what is left from p on, make the whole.' -/
def Part (T : List Opt × Bool) (done : List Opt) (r : List Opt × Bool) : Prop := T = (done ++ r.1, r.2)
theorem Part.start (T : List Opt × Bool) : Part T [] T := rfl
theorem Part.step {T : List Opt × Bool} {done : List Opt} {o : Opt} {r : List Opt × Bool} (h : Part T done (o :: r.1, r.2)) : Part T (done ++ [o]) r := by
  unfold Part at *
  rw [h]
  simp
theorem Part.over {T : List Opt × Bool} {done : List Opt} {f : Bool} (h : Part T done ([], f)) : T.1 = done ∧ T.2 = f := by
  unfold Part at h
  rw [h]
  simp

/-- Every option lies within the field. -/
theorem spec_in (xs : List Int) (e p : Nat) : ∀ o ∈ (spec xs e p).1, p + 2 ≤ o.2.1 ∧ o.2.1 + o.2.2 ≤ e := by
  induction p using spec.induct (xs := xs) (e := e) with
  | case1 p h h0 ih =>
    rw [spec_pad h h0]
    intro o ho
    have := ih o ho
    omega
  | case2 p h h0 h1 => rw [spec_end h h1]; simp
  | case3 p h h0 h1 h2 => rw [spec_nolen h h0 h1 h2]; simp
  | case4 p h h0 h1 h2 h3 => rw [spec_short h h0 h1 h2 h3]; simp
  | case5 p h h0 h1 h2 h3 ih =>
    rw [spec_opt h h0 h1 h2 h3]
    intro o ho
    rcases List.mem_cons.1 ho with rfl | ho
    · simp only
      omega
    · have := ih o ho
      omega
  | case6 p h => rw [spec_done h]; simp
theorem spec_few (xs : List Int) (e p : Nat) : (spec xs e p).1.length ≤ e := by
  suffices h : (spec xs e p).1.length + p ≤ e ∨ (spec xs e p).1 = [] by
    rcases h with h | h
    · omega
    · rw [h]; simp
  induction p using spec.induct (xs := xs) (e := e) with
  | case1 p h h0 ih =>
    rw [spec_pad h h0]
    rcases ih with ih | ih
    · exact .inl (by omega)
    · exact .inr ih
  | case2 p h h0 h1 => rw [spec_end h h1]; simp
  | case3 p h h0 h1 h2 => rw [spec_nolen h h0 h1 h2]; simp
  | case4 p h h0 h1 h2 h3 => rw [spec_short h h0 h1 h2 h3]; simp
  | case5 p h h0 h1 h2 h3 ih =>
    rw [spec_opt h h0 h1 h2 h3]
    left
    simp only [List.length_cons]
    rcases ih with ih | ih
    · omega
    · rw [ih]; simp; omega
  | case6 p h => rw [spec_done h]; simp
end Go.Proofs.Qxb6612485aFmt
