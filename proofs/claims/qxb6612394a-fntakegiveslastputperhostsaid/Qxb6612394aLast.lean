/-
  A region that draws its order and ENDS IN ONE STORE: what is loaded ahead of the store may be taken first under a condition S on the world that the store itself need not keep.
  After Derived/OrdersHeld.lean's idea; own text: there S is asked behind EVERY operation, here behind every operation but number 'last', for which each operation that is taken first must be waited for.
-/
import Derived.OrdersHeld
import Derived.Laws.World
namespace Go.Proofs.Qxb6612394a
open Go

section
variable {P : Program} {ops : Array Oper} {Q : Exit → Act → World → Prop} {md : Region.Mode} {S : World → Prop} {last : Nat}

/-- Whatever order is picked from here on; S holds behind every operation but the last one. -/
def AnyL (P : Program) (md : Region.Mode) (ops : Array Oper) (Q : Exit → Act → World → Prop) (S : World → Prop) (last : Nat) : Nat → Array Bool → Act → World → Prop
  | 0, listed, a, w => Region.ready md ops listed = [] ∧ Q .normal a w
  | fuel + 1, listed, a, w =>
    (Region.ready md ops listed = [] → Q .normal a w) ∧
    ∀ i ∈ Region.ready md ops listed, wpOp P ops Q i (fun a' w' => (i ≠ last → S w') ∧ AnyL P md ops Q S last fuel (listed.setIfInBounds i true) a' w') a w

theorem any_of_L : ∀ (fuel : Nat) (listed : Array Bool) (a : Act) (w : World), AnyL P md ops Q S last fuel listed a w → wpAny P md ops Q fuel listed a w
  | 0, _, _, _, h => h
  | fuel + 1, _, _, _, h => ⟨h.1, fun i hi => wpOp_mono (fun a' w' h' => any_of_L fuel _ a' w' h'.2) (h.2 i hi)⟩

/-- Does number 'j' wait for number 'i'? -/
def waits (md : Region.Mode) (ops : Array Oper) (j i : Nat) : Bool :=
  match ops[j]? with
  | none => false
  | some o => o.after.any fun e => Region.binds md e && e.on == i

theorem L_first {i : Nat} {oi : Oper} {v : Value} (hi : ops[i]? = some oi) (hsel : ∀ (j : Nat) (o : Oper) cs b, ops[j]? = some o → o.op ≠ .select cs b)
    (hQ : ∀ c a w, Q (.panic c) (a.put oi.dst v) w → Q (.panic c) a w) (hwt : waits md ops last i = true) (hil : i ≠ last) :
    ∀ (fuel : Nat) (listed : Array Bool) (a : Act) (w : World),
      (∀ j oj, ops[j]? = some oj → j ≠ i → listed.getD j true = false → (∀ e ∈ oj.after, Region.binds md e = true → e.on ≠ i) → oi.apart ops oj = true) →
      i ∈ Region.ready md ops listed → YieldsIf P ops S oi v a → S w →
      AnyL P md ops Q S last fuel (listed.setIfInBounds i true) (a.put oi.dst v) w → AnyL P md ops Q S last (fuel + 1) listed a w := by
  -- an operation that may come up while 'i' has not is not the last one, and does not wait for 'i'
  have key : ∀ (listed : Array Bool) (j : Nat), i ∈ Region.ready md ops listed → j ∈ Region.ready md ops listed →
      ∃ oj, ops[j]? = some oj ∧ listed.getD j true = false ∧ (∀ e ∈ oj.after, Region.binds md e = true → e.on ≠ i) ∧ j ≠ last := by
    intro listed j hr hj
    obtain ⟨hjun, oj, hoj, hall⟩ := mem_ready.1 hj
    have hnot : ∀ e ∈ oj.after, Region.binds md e = true → e.on ≠ i := fun e he hb heq => by
      have h1 := hall e he hb
      have h0 := (mem_ready.1 hr).1
      rw [heq] at h1
      rcases Nat.lt_or_ge i listed.size with h' | h'
      · simp [h'] at h0 h1; rw [h0] at h1; cases h1
      · simp [Array.getElem?_eq_none h'] at h1
    refine ⟨oj, hoj, hjun, hnot, ?_⟩
    rintro rfl
    unfold waits at hwt
    rw [hoj] at hwt
    obtain ⟨e, he, hb⟩ := Array.any_eq_true'.1 hwt
    simp only [Bool.and_eq_true, beq_iff_eq] at hb
    exact hnot e he hb.1 hb.2
  intro fuel
  induction fuel with
  | zero =>
    intro listed a w _ hr hy hS H
    refine ⟨fun h => (by rw [h] at hr; cases hr), fun j hj => ?_⟩
    by_cases hji : j = i
    · subst hji; exact hy.wpOp hi hS ⟨fun _ => hS, H⟩
    · have := ready_mono hj hji
      rw [H.1] at this
      cases this
  | succ fuel ih =>
    intro listed a w hfree hr hy hS H
    refine ⟨fun h => (by rw [h] at hr; cases hr), fun j hj => ?_⟩
    by_cases hji : j = i
    · subst hji; exact hy.wpOp hi hS ⟨fun _ => hS, H⟩
    · obtain ⟨oj, hoj, hjun, hnot, hjl⟩ := key listed j hr hj
      have h1 := H.2 j (ready_mono hj hji)
      have h2 := wpOp_putIf hoj (hfree j oj hoj hji hjun hnot) (fun cs b => hsel i oi cs b hi) (fun cs b => hsel j oj cs b hoj) hQ hy h1
      have hfree' : ∀ k ok, ops[k]? = some ok → k ≠ i → (listed.setIfInBounds j true).getD k true = false →
          (∀ e ∈ ok.after, Region.binds md e = true → e.on ≠ i) → oi.apart ops ok = true := fun k ok hk hki hun hno => by
        refine hfree k ok hk hki ?_ hno
        by_cases hjk : j = k
        · subst hjk; exact hjun
        · rw [getD_set_ne true hjk] at hun; exact hun
      refine wpOp_mono (fun a' w' h3 => ⟨h3.2.1, ih (listed.setIfInBounds j true) a' w' hfree' (ready_mono hr (Ne.symm hji)) h3.1 (h3.2.1 hjl) ?_⟩) h2
      rw [Array.setIfInBounds_comm _ _ hji]
      exact h3.2.2

/-- Take number 'i' first. -/
theorem L_take {i : Nat} {oi : Oper} {v : Value} {fuel : Nat} {listed : Array Bool} {a : Act} {w : World} (hi : ops[i]? = some oi)
    (hc : (Region.noSelect ops && Region.free md ops listed i && (Region.ready md ops listed).contains i && waits md ops last i && (i != last)) = true)
    (hQ : ∀ c a w, Q (.panic c) (a.put oi.dst v) w → Q (.panic c) a w) (hS : S w) (hy : YieldsIf P ops S oi v a)
    (h : AnyL P md ops Q S last fuel (listed.setIfInBounds i true) (a.put oi.dst v) w) : AnyL P md ops Q S last (fuel + 1) listed a w := by
  simp only [Bool.and_eq_true, bne_iff_ne, ne_eq] at hc
  obtain ⟨⟨⟨⟨h1, h2⟩, h3⟩, h4⟩, h5⟩ := hc
  exact L_first hi (Region.noSelect_spec h1) hQ h4 h5 fuel listed a w (Region.free_spec hi h2) (by simpa using h3) hy hS h

/-- Only number 'i' may come up, and it is wanted: it is carried out, what follows behind a letter. -/
theorem L_only {i : Nat} {o : Oper} {fuel : Nat} {listed : Array Bool} {a : Act} {w : World} (hr : Region.ready md ops listed = [i]) (hi : ops[i]? = some o) (hg : o.guard = none)
    (h : ∀ K : Act → World → Prop, (∀ a' w', (i ≠ last → S w') → AnyL P md ops Q S last fuel (listed.setIfInBounds i true) a' w' → K a' w') → o.wp P a w K Q) :
    AnyL P md ops Q S last (fuel + 1) listed a w := by
  refine ⟨fun h0 => (by rw [hr] at h0; cases h0), fun j hj => ?_⟩
  rw [hr] at hj
  have e : j = i := by simpa using hj
  subst e
  unfold wpOp
  simp only [hi]
  have hw : Region.wanted o (yielded ops a.tmps) = true := by simp [Region.wanted, hg]
  rw [if_pos hw]
  exact .inl (h _ fun a' w' h1 h2 => ⟨h1, h2⟩)

theorem L_done {listed : Array Bool} {a : Act} {w : World} (hr : Region.ready md ops listed = []) (h : Q .normal a w) : ∀ fuel, AnyL P md ops Q S last fuel listed a w
  | 0 => ⟨hr, h⟩
  | _ + 1 => ⟨fun _ => h, by rw [hr]; simp⟩

/-- THE BEGINNING. -/
theorem region_L {id : Nat} {a : Act} {w : World} (hm : P.follows .mixedOrders = true)
    (h : AnyL P .any ops Q S last ops.size (Array.replicate ops.size false) a w.drew) : (Code.region id ops true).wp P Q a w :=
  wp_region_any hm (any_of_L _ _ _ _ h)
end
end Go.Proofs.Qxb6612394a
