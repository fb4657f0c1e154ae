import Derived.Test.Qxb6612511aArr
namespace Go.Proofs.Qxb6612511a
open Go.RowKit

/-! ### THE PLAIN LAW: rooms that double -/
def sz (j : Nat) : Nat := min (512 * 2 ^ j) 65536
/-- How many bytes the first m rooms hold. -/
def tot : Nat → Nat
  | 0 => 0
  | m + 1 => tot m + sz m

theorem nextCap_zero : nextCap 0 = sz 0 := by decide
theorem nextCap_sz (j : Nat) : nextCap (sz j) = sz (j + 1) := by
  unfold nextCap sz
  rw [Nat.pow_succ]
  have : 1 ≤ 2 ^ j := Nat.one_le_two_pow
  generalize 2 ^ j = q at *
  omega
theorem sz_ge (j : Nat) : 512 ≤ sz j := by
  unfold sz
  have : 1 ≤ 2 ^ j := Nat.one_le_two_pow
  generalize 2 ^ j = q at *
  omega
theorem sz_le (j : Nat) : sz j ≤ 65536 := by unfold sz; omega
theorem tot_ge (m : Nat) : 512 * m ≤ tot m := by
  induction m with
  | zero => exact Nat.le_refl _
  | succ m ih =>
    have := sz_ge m
    show 512 * (m + 1) ≤ tot m + sz m
    omega
theorem tot_mono {m n : Nat} (h : m ≤ n) : tot m ≤ tot n := by
  induction n with
  | zero => have e : m = 0 := by omega
            rw [e]; exact Nat.le_refl _
  | succ n ih =>
    by_cases e : m = n + 1
    · rw [e]; exact Nat.le_refl _
    · have := ih (by omega)
      show tot m ≤ tot n + sz n
      omega

/-- The state that the bytes T leave: the full rooms R, the bytes c in hand, the capacity of that room. -/
structure Good (T : List Int) (R : List (List Int)) (c : List Int) (cap : Nat) : Prop where
  text : R.flatten ++ c = T
  rooms : ∀ (j : Nat) (l : List Int), R[j]? = some l → l.length = sz j
  size : R.flatten.length = tot R.length
  hand : (T = [] ∧ cap = 0 ∧ R = []) ∨ (c ≠ [] ∧ cap = sz R.length ∧ c.length ≤ cap)

theorem Good.start : Good [] [] [] 0 := ⟨rfl, fun j l h => by simp at h, rfl, .inl ⟨rfl, rfl, rfl⟩⟩
theorem Good.capok {T : List Int} {R : List (List Int)} {c : List Int} {cap : Nat} (h : Good T R c cap) : (cap = 0 ∨ 512 ≤ cap) ∧ cap ≤ 65536 := by
  rcases h.hand with ⟨_, e, _⟩ | ⟨_, e, _⟩
  · exact ⟨.inl e, by omega⟩
  · rw [e]; exact ⟨.inr (sz_ge _), sz_le _⟩
theorem Good.few {T : List Int} {R : List (List Int)} {c : List Int} {cap : Nat} (h : Good T R c cap) (hT : T.length ≤ 100000) : R.length ≤ 1000 := by
  have h1 := tot_ge R.length
  have h2 : R.flatten.length ≤ T.length := by rw [← h.text]; simp
  have h3 := h.size
  omega
theorem Good.push {T : List Int} {R : List (List Int)} {c : List Int} {cap : Nat} (h : Good T R c cap) (x : Int) : Good (T ++ [x]) (fR R c cap) (fC c cap ++ [x]) (fK c cap) := by
  unfold fR fC fK
  by_cases hlt : c.length < cap
  · rw [if_pos hlt, if_pos hlt, if_pos hlt]
    refine ⟨by rw [← h.text]; simp, h.rooms, h.size, .inr ⟨by simp, ?_, by simp; omega⟩⟩
    rcases h.hand with ⟨_, e, _⟩ | ⟨_, e, _⟩
    · omega
    · exact e
  · rw [if_neg hlt, if_neg hlt, if_neg hlt]
    have hn := sz_ge (R.length + 1)
    rcases h.hand with ⟨e1, e2, e3⟩ | ⟨e1, e2, e3⟩
    · have hc : c = [] := by have := h.text; rw [e3, e1] at this; simpa using this
      rw [if_pos hc, e3, e2, e1]
      exact ⟨rfl, fun j l h => by simp at h, rfl, .inr ⟨by simp, nextCap_zero, by show 1 ≤ nextCap 0; decide⟩⟩
    · rw [if_neg e1]
      have hcl : c.length = sz R.length := by omega
      refine ⟨by rw [← h.text]; simp, ?_, ?_, .inr ⟨by simp, ?_, ?_⟩⟩
      · intro j l hj
        by_cases hjl : j < R.length
        · rw [List.getElem?_append_left hjl] at hj
          exact h.rooms j l hj
        · by_cases hje : j = R.length
          · subst hje
            simp at hj
            rw [← hj]
            exact hcl
          · rw [List.getElem?_eq_none (by simp; omega)] at hj
            cases hj
      · have := h.size
        simp [tot] at this ⊢
        omega
      · rw [e2, nextCap_sz]
        simp
      · rw [e2, nextCap_sz]
        simp
        omega

/-- A Pieces in block b that holds the text T. -/
def Holds (b : Nat) (w : World) (T : List Int) : Prop := ∃ R c cap, Inv b w R c cap ∧ Good T R c cap

theorem write_holds (b : Nat) (w : World) (T : List Int) (x : UInt8) (h : Holds b w T) (hT : T.length ≤ 100000) :
    Calls Try.prog 14 #[.pointer (some ⟨b, 0, none⟩), .string ⟨#[x]⟩] w fun e w' => e = .returned (.tuple #[]) ∧ Holds b w' (T ++ [(x.toNat : Int)]) ∧ Below b w w' := by
  obtain ⟨R, c, cap, hi, hg⟩ := h
  refine (write_inv b w R c cap x hi hg.capok.1 hg.capok.2 (hg.few hT)).mono ?_
  rintro e w' ⟨rfl, hi', hbel⟩
  exact ⟨rfl, ⟨_, _, _, hi', hg.push _⟩, hbel⟩

theorem holds_start (w : World) : Holds w.heap.size (w.alloc (.cells #[.slice none 0 0, .slice none 0 0, .int .i64 0] 26)) [] :=
  ⟨[], [], 0, ⟨.slice none 0 0, .slice none 0 0, [], rfl, heap_alloc_new w _, World.ownsRow_nil _ _ _ _, fun p hp => by simp at hp, .inl ⟨rfl, rfl, rfl⟩⟩, Good.start⟩

/-- The text that Array leaves, n elements that write nothing. -/
def arrText (n : Int) : List Int := 91 :: List.replicate (n - 1).toNat 44 ++ [93]
end Go.Proofs.Qxb6612511a
