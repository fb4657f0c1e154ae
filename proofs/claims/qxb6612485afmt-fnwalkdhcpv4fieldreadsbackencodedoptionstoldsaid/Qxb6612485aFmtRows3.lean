import Derived.Test.Qxb6612485aFmtVisit
import Derived.Test.Qxb6612485aFmtSpec
namespace Go.Proofs.Qxb6612485aFmt
open Go.RowKit

def intsOf (l : List Nat) : List Value := l.map fun n : Nat => Value.int .i64 (n : Int)
theorem intsOf_app (a b : List Nat) : intsOf (a ++ b) = intsOf a ++ intsOf b := by simp [intsOf]

/-- The machine's three rows: they lie in three blocks of their own, from block B on. -/
structure M3 (B : Nat) (w : World) (vc vf vt : Value) (nc nf nt : Nat) (c : List Int) (f t : List Nat) : Prop where
  codes : w.ownsRow B 5 1 vc nc (bytesOf c)
  froms : w.ownsRow B 3 1 vf nf (intsOf f)
  tos : w.ownsRow B 3 1 vt nt (intsOf t)
  two : vf.ownBlock = none ∨ vt.ownBlock = none ∨ vf.ownBlock ≠ vt.ownBlock

theorem M3.start (B : Nat) (w : World) : M3 B w (.slice none 0 0) (.slice none 0 0) (.slice none 0 0) 0 0 0 [] [] [] :=
  ⟨World.ownsRow_nil _ _ _ _, World.ownsRow_nil _ _ _ _, World.ownsRow_nil _ _ _ _, .inl rfl⟩

theorem M3.pushCode {B : Nat} {w w1 : World} {vc vf vt v : Value} {nc nf nt : Nat} {c : List Int} {f t : List Nat} (h : M3 B w vc vf vt nc nf nt c f t) (o : Obj) (x : Int)
    (hown : w1.ownsRow B 5 1 v (nc + 1) (bytesOf c ++ [.int .u8 x])) (hg : (w.alloc o).grownBy w1 vc.ownBlock) : M3 B w1 v vf vt (nc + 1) nf nt (c ++ [x]) f t :=
  ⟨by rw [bytesOf_app]; exact hown, (h.froms.alloc o).kept hg (own_two h.froms h.codes (by decide)), (h.tos.alloc o).kept hg (own_two h.tos h.codes (by decide)), h.two⟩

theorem M3.pushFrom {B : Nat} {w w1 : World} {vc vf vt : Value} {nc nf nt : Nat} {c : List Int} {f t : List Nat} (h : M3 B w vc vf vt nc nf nt c f t) (o : Obj) (x : Nat) (g cap H : Nat) (hH : (w.alloc o).heap.size = H)
    (hown : w1.ownsRow B 3 1 (.slice (some ⟨g, 0, none⟩) (nf + 1) cap) (nf + 1) (intsOf f ++ [.int .i64 x])) (hg : (w.alloc o).grownBy w1 vf.ownBlock) (hl : vf.ownBlock = some g ∨ g = H) :
    M3 B w1 vc (.slice (some ⟨g, 0, none⟩) (nf + 1) cap) vt nc (nf + 1) nt c (f ++ [x]) t := by
  have hne : vt.ownBlock = none ∨ vt.ownBlock ≠ vf.ownBlock := by
    rcases h.two with e | e | e
    · rw [e]; cases vt.ownBlock <;> simp
    · exact .inl e
    · exact .inr e.symm
  refine ⟨(h.codes.alloc o).kept hg (own_two h.codes h.froms (by decide)), by rw [intsOf_app]; exact hown, (h.tos.alloc o).kept hg hne, ?_⟩
  cases ht : vt.ownBlock with
  | none => exact .inr (.inl rfl)
  | some k =>
    refine .inr (.inr ?_)
    have hk := (h.tos.lt k ht).2
    simp only [Value.ownBlock, ne_eq, Option.some.injEq]
    rcases hl with hl | hl
    · rintro rfl
      rcases hne with e | e
      · rw [ht] at e; cases e
      · exact e (ht.trans hl.symm)
    · have : (w.alloc o).heap.size = w.heap.size + 1 := by simp
      omega

theorem M3.pushTo {B : Nat} {w w1 : World} {vc vf vt : Value} {nc nf nt : Nat} {c : List Int} {f t : List Nat} (h : M3 B w vc vf vt nc nf nt c f t) (o : Obj) (x : Nat) (g cap H : Nat) (hH : (w.alloc o).heap.size = H)
    (hown : w1.ownsRow B 3 1 (.slice (some ⟨g, 0, none⟩) (nt + 1) cap) (nt + 1) (intsOf t ++ [.int .i64 x])) (hg : (w.alloc o).grownBy w1 vt.ownBlock) (hl : vt.ownBlock = some g ∨ g = H) :
    M3 B w1 vc vf (.slice (some ⟨g, 0, none⟩) (nt + 1) cap) nc nf (nt + 1) c f (t ++ [x]) := by
  have hne : vf.ownBlock = none ∨ vf.ownBlock ≠ vt.ownBlock := by
    rcases h.two with e | e | e
    · exact .inl e
    · rw [e]; cases vf.ownBlock <;> simp
    · exact .inr e
  refine ⟨(h.codes.alloc o).kept hg (own_two h.codes h.tos (by decide)), (h.froms.alloc o).kept hg hne, by rw [intsOf_app]; exact hown, ?_⟩
  cases hf : vf.ownBlock with
  | none => exact .inl rfl
  | some k =>
    refine .inr (.inr ?_)
    have hk := (h.froms.lt k hf).2
    simp only [Value.ownBlock, ne_eq, Option.some.injEq]
    rcases hl with hl | hl
    · rintro rfl
      rcases hne with e | e
      · rw [hf] at e; cases e
      · exact e (hf.trans hl.symm)
    · have : (w.alloc o).heap.size = w.heap.size + 1 := by simp
      omega

/-- THE MACHINE's THREE STATES, at position p, against the plain reading. -/
def MS (xs : List Int) (n : Nat) (T : List Opt × Bool) (done : List Opt) (p : Nat) (st c l f : Int) : Prop :=
  (st = 0 ∧ Part T done (spec xs n p)) ∨
  (st = 1 ∧ ∃ q : Nat, p = q + 1 ∧ q < n ∧ xs.getD q 0 = c ∧ c ≠ 0 ∧ c ≠ 255 ∧ Part T done (spec xs n q)) ∨
  (st = 2 ∧ ∃ q k : Nat, f = (q : Int) + 2 ∧ l = (q : Int) + 2 + k - p ∧ 0 < l ∧ q + 2 ≤ p ∧ p ≤ n ∧ xs.getD q 0 = c ∧ c ≠ 0 ∧ c ≠ 255 ∧ xs.getD (q + 1) 0 = k ∧ Part T done (spec xs n q))
end Go.Proofs.Qxb6612485aFmt
