/-
  PLAIN: no Go in sight. Options laid one behind the other are read back.
-/
import Derived.Test.Qxb6612485aFmtSpec
namespace Go.Proofs.Qxb6612485aFmt

/-- The sizes of the first i options, summed. -/
def us (Z : List Int) : Nat → Nat
  | 0 => 0
  | i + 1 => us Z i + (Z.getD i 0).toNat
theorem us_mono (Z : List Int) {i j : Nat} (h : i ≤ j) : us Z i ≤ us Z j := by
  induction j with
  | zero => have : i = 0 := by omega
            subst this; exact Nat.le_refl _
  | succ j ih =>
    by_cases hij : i = j + 1
    · subst hij; exact Nat.le_refl _
    · have := ih (by omega)
      simp only [us]
      omega

/-- One option's bytes. -/
def one (C Z P : List Int) (i : Nat) : List Int := C.getD i 0 :: Z.getD i 0 :: (P.drop (us Z i)).take (Z.getD i 0).toNat
/-- The first i options' bytes. -/
def enc (C Z P : List Int) : Nat → List Int
  | 0 => []
  | i + 1 => enc C Z P i ++ one C Z P i
theorem one_length (C Z P : List Int) (i : Nat) (h : us Z (i + 1) ≤ P.length) : (one C Z P i).length = 2 + (Z.getD i 0).toNat := by
  simp only [us] at h
  simp only [one, List.length_cons, List.length_take, List.length_drop]
  omega
theorem enc_length (C Z P : List Int) (i : Nat) (h : us Z i ≤ P.length) : (enc C Z P i).length = 2 * i + us Z i := by
  induction i with
  | zero => rfl
  | succ i ih =>
    have := ih (Nat.le_trans (us_mono Z (Nat.le_succ i)) h)
    simp only [enc, List.length_append, one_length C Z P i h, us]
    omega
theorem enc_split (C Z P : List Int) {i n : Nat} (h : i < n) : ∃ R, enc C Z P n = enc C Z P i ++ one C Z P i ++ R := by
  induction n with
  | zero => omega
  | succ n ih =>
    by_cases hin : i = n
    · subst hin; exact ⟨[], by simp [enc]⟩
    · obtain ⟨R, hR⟩ := ih (by omega)
      exact ⟨R ++ one C Z P n, by simp only [enc]; rw [hR]; simp⟩

section
variable {pre C Z P X : List Int} {n : Nat}

/-- Where option i begins. -/
def pos (pre Z : List Int) (i : Nat) : Nat := pre.length + (2 * i + us Z i)
def optAt (pre C Z : List Int) (i : Nat) : Opt := (C.getD i 0, pos pre Z i + 2, (Z.getD i 0).toNat)
theorem pos_succ (pre Z : List Int) (i : Nat) : pos pre Z (i + 1) = pos pre Z i + 2 + (Z.getD i 0).toNat := by
  simp only [pos, us]; omega
theorem pos_mono (pre Z : List Int) {i j : Nat} (h : i ≤ j) : pos pre Z i + 2 * (j - i) ≤ pos pre Z j := by
  have := us_mono Z h
  simp only [pos]; omega

theorem getD_mid (A B R : List Int) (j : Nat) (h : j < B.length) : (A ++ B ++ R).getD (A.length + j) 0 = B.getD j 0 := by
  simp only [List.getD_eq_getElem?_getD]
  rw [List.append_assoc, List.getElem?_append_right (by omega), List.getElem?_append_left (by omega)]
  congr 2
  omega

theorem at_opt (hU : us Z n ≤ P.length) {i : Nat} (hi : i < n) (j : Nat) (hj : j < 2 + (Z.getD i 0).toNat) : (pre ++ enc C Z P n ++ X).getD (pos pre Z i + j) 0 = (one C Z P i).getD j 0 := by
  obtain ⟨R, hR⟩ := enc_split C Z P hi
  have h1 : us Z (i + 1) ≤ P.length := Nat.le_trans (us_mono Z hi) hU
  have h0 : us Z i ≤ P.length := Nat.le_trans (us_mono Z (Nat.le_of_lt hi)) hU
  have hl := enc_length C Z P i h0
  have h2 := one_length C Z P i h1
  have e : pre ++ enc C Z P n ++ X = (pre ++ enc C Z P i) ++ one C Z P i ++ (R ++ X) := by rw [hR]; simp
  have hp : pos pre Z i = (pre ++ enc C Z P i).length := by simp [pos, hl]
  rw [e, hp]
  exact getD_mid _ _ _ _ (by omega)
theorem at_code (hU : us Z n ≤ P.length) {i : Nat} (hi : i < n) : (pre ++ enc C Z P n ++ X).getD (pos pre Z i) 0 = C.getD i 0 := by
  have := at_opt (pre := pre) (C := C) (X := X) hU hi 0 (by omega)
  simpa [one] using this
theorem at_size (hU : us Z n ≤ P.length) {i : Nat} (hi : i < n) : (pre ++ enc C Z P n ++ X).getD (pos pre Z i + 1) 0 = Z.getD i 0 := by
  have := at_opt (pre := pre) (C := C) (X := X) hU hi 1 (by omega)
  simpa [one] using this
theorem at_data (hU : us Z n ≤ P.length) {i : Nat} (hi : i < n) (j : Nat) (hj : j < (Z.getD i 0).toNat) : (pre ++ enc C Z P n ++ X).getD (pos pre Z i + 2 + j) 0 = P.getD (us Z i + j) 0 := by
  have := at_opt (pre := pre) (C := C) (X := X) hU hi (2 + j) (by omega)
  rw [← Nat.add_assoc] at this
  rw [this]
  have h1 : us Z (i + 1) ≤ P.length := Nat.le_trans (us_mono Z hi) hU
  simp only [one, List.getD_eq_getElem?_getD] at hj ⊢
  rw [show 2 + j = j + 1 + 1 by omega, List.getElem?_cons_succ, List.getElem?_cons_succ, List.getElem?_take_of_lt hj, List.getElem?_drop]
theorem at_end (hU : us Z n ≤ P.length) (Y : List Int) : (pre ++ enc C Z P n ++ (255 :: Y)).getD (pos pre Z n) 0 = 255 := by
  have hp : pos pre Z n = (pre ++ enc C Z P n).length := by simp [pos, enc_length C Z P n hU]
  rw [hp, List.getD_eq_getElem?_getD, List.getElem?_append_right (Nat.le_refl _)]
  simp

/-- The field as a whole: read up to its end, or up to End. -/
theorem spec_all (hU : us Z n ≤ P.length) (hc : ∀ i, i < n → C.getD i 0 ≠ 0 ∧ C.getD i 0 ≠ 255) (Y : List Int) (e : Nat) (he : pos pre Z n ≤ e) :
    ∀ d i, i + d = n → spec (pre ++ enc C Z P n ++ (255 :: Y)) e (pos pre Z i) = ((List.range' i d).map (optAt pre C Z), false) := by
  intro d
  induction d with
  | zero =>
    intro i hi
    obtain rfl : i = n := by omega
    by_cases h : pos pre Z i < e
    · rw [spec_end h (at_end hU Y)]; rfl
    · rw [spec_done h]; rfl
  | succ d ih =>
    intro i hi
    have hin : i < n := by omega
    have h1 := at_code (pre := pre) (C := C) (X := 255 :: Y) hU hin
    have h2 := at_size (pre := pre) (C := C) (X := 255 :: Y) hU hin
    obtain ⟨c0, c1⟩ := hc i hin
    have hm := pos_mono pre Z (show i + 1 ≤ n by omega)
    have hs := pos_succ pre Z i
    rw [spec_opt (by omega) (by rw [h1]; exact c0) (by rw [h1]; exact c1) (by omega) (by rw [h2]; omega), h1, h2, ← hs, ih (i + 1) (by omega)]
    rfl
/-- The field cut one byte short. -/
theorem spec_cut (hU : us Z n ≤ P.length) (hz : ∀ i, 0 ≤ Z.getD i 0) (hc : ∀ i, i < n → C.getD i 0 ≠ 0 ∧ C.getD i 0 ≠ 255) (X : List Int) :
    ∀ d i, i + d + 1 = n → spec (pre ++ enc C Z P n ++ X) (pos pre Z n - 1) (pos pre Z i) = ((List.range' i d).map (optAt pre C Z), true) := by
  intro d
  induction d with
  | zero =>
    intro i hi
    have hin : i < n := by omega
    have h1 := at_code (pre := pre) (C := C) (X := X) hU hin
    have h2 := at_size (pre := pre) (C := C) (X := X) hU hin
    obtain ⟨c0, c1⟩ := hc i hin
    have hs := pos_succ pre Z i
    rw [show i + 1 = n by omega] at hs
    have hz0 := hz i
    by_cases h0 : (Z.getD i 0).toNat = 0
    · rw [spec_nolen (by omega) (by rw [h1]; exact c0) (by rw [h1]; exact c1) (by omega)]; rfl
    · rw [spec_short (by omega) (by rw [h1]; exact c0) (by rw [h1]; exact c1) (by omega) (by rw [h2]; omega)]; rfl
  | succ d ih =>
    intro i hi
    have hin : i < n := by omega
    have h1 := at_code (pre := pre) (C := C) (X := X) hU hin
    have h2 := at_size (pre := pre) (C := C) (X := X) hU hin
    obtain ⟨c0, c1⟩ := hc i hin
    have hm := pos_mono pre Z (show i + 1 ≤ n by omega)
    have hs := pos_succ pre Z i
    rw [spec_opt (by omega) (by rw [h1]; exact c0) (by rw [h1]; exact c1) (by omega) (by rw [h2]; omega), h1, h2, ← hs, ih (i + 1) (by omega)]
    rfl
end
end Go.Proofs.Qxb6612485aFmt
