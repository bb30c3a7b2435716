/- Plain facts on the words of float64, second part: which words are finite; floor, ceil, truncation and math.Round's reckoning on bits, said of what a word stands for. No condition. -/
import Derived.Test.YthmogfjmngbamaaGreatDoorFlo
import Derived.Test.YthmogfjmngbamaaGreatDoorRoundWalks
namespace Go.Proofs.YthmogfjmngbamaaGreatDoor.Flo
open Ieee

theorem f64_format : FloatKind.f64.format = double := rfl

/-- a word is a sign and a rung -/
theorem word_of (x : Nat) (hx : x < 18446744073709551616) : ∃ s r, x = double.word s r ∧ r < 9223372036854775808 := by
  have e1 : double.signWeight = 9223372036854775808 := by decide
  by_cases h : x < 9223372036854775808
  · exact ⟨false, x, rfl, h⟩
  · refine ⟨true, x - 9223372036854775808, ?_, by omega⟩
    unfold Format.word
    rw [if_pos rfl, e1]; omega

/-- of a finite rung: what the word stands for -/
theorem reads_of_rung (s : Bool) (r : Nat) (h : r < 9218868437227405312) :
    Reads (double.word s r) s (if r < 4503599627370496 then r else (4503599627370496 + r % 4503599627370496) * 2 ^ (r / 4503599627370496 - 1)) := by
  unfold Reads
  rw [read_word s r h]
  by_cases hb : r < 4503599627370496
  · rw [if_pos hb, if_pos hb]
    exact ⟨r, 0, by simp, by simp⟩
  · rw [if_neg hb, if_neg hb]
    refine ⟨_, r / 4503599627370496 - 1, ?_, rfl⟩
    congr 1 <;> omega

/-- beyond them there is no number -/
theorem read_big (s : Bool) (r : Nat) (h : ¬ r < 9218868437227405312) (hr : r < 9223372036854775808) :
    double.read (double.word s r) = .infinity s ∨ ∃ t, double.read (double.word s r) = .nan s t := by
  have e1 : double.signWeight = 9223372036854775808 := by decide
  have e2 : double.binade = 4503599627370496 := by decide
  have e3 : double.infRung = 9218868437227405312 := by decide
  unfold Format.read Format.word
  rw [e1, e2, e3]
  have hm : (if s = true then 9223372036854775808 + r else r) % 9223372036854775808 = r := by
    cases s <;> simp <;> omega
  have hn : ((if s = true then 9223372036854775808 + r else r) / 9223372036854775808 % 2 == 1) = s := by
    cases s
    · simp; omega
    · simp; omega
  simp only [hm, hn]
  rw [if_neg (by omega), if_neg (by omega)]
  by_cases q : r = 9218868437227405312
  · rw [if_pos q]; exact Or.inl rfl
  · rw [if_neg q]; exact Or.inr ⟨_, rfl⟩

theorem reads_hi : Reads 4832362400168542208 false (2 ^ 50 * U) := by
  have hE := E_eq
  have h := reads_rung false (E - 2) (2 ^ 52) (by omega) (by decide) (Or.inr (Nat.le_refl _))
  have e : double.word false ((E - 2) * 4503599627370496 + 2 ^ 52) = 4832362400168542208 := by rw [E_eq]; decide
  rw [e] at h
  have e2 : 2 ^ 50 * U = 2 ^ 52 * 2 ^ (E - 2) := by
    rw [U_pow, ← Nat.pow_add, ← Nat.pow_add, show 50 + E = 52 + (E - 2) from by omega]
  rw [e2]; exact h
theorem reads_lo : Reads 14055734437023318016 true (2 ^ 50 * U) := by
  have hE := E_eq
  have h := reads_rung true (E - 2) (2 ^ 52) (by omega) (by decide) (Or.inr (Nat.le_refl _))
  have e : double.word true ((E - 2) * 4503599627370496 + 2 ^ 52) = 14055734437023318016 := by rw [E_eq]; decide
  rw [e] at h
  have e2 : 2 ^ 50 * U = 2 ^ 52 * 2 ^ (E - 2) := by
    rw [U_pow, ← Nat.pow_add, ← Nat.pow_add, show 50 + E = 52 + (E - 2) from by omega]
  rw [e2]; exact h
theorem reads_one : Reads 4607182418800017408 false U := by
  have hE := E_eq
  have h := reads_rung false (E - 52) (2 ^ 52) (by omega) (by decide) (Or.inr (Nat.le_refl _))
  have e : double.word false ((E - 52) * 4503599627370496 + 2 ^ 52) = 4607182418800017408 := by rw [E_eq]; decide
  rw [e] at h
  have e2 : U = 2 ^ 52 * 2 ^ (E - 52) := by
    rw [U_pow, ← Nat.pow_add, show 52 + (E - 52) = E from by omega]
  rw [e2]; exact h
theorem reads_zero (s : Bool) : Reads (double.word s 0) s 0 := by
  have h := reads_rung s 0 0 (by decide) (by decide) (Or.inl rfl)
  simpa using h

/-- within the law's bounds a word is finite, and of no more than 2 ^ 50 -/
theorem bounded (x : Nat) (hx : x < 18446744073709551616)
    (h1 : (double.order x 4832362400168542208 == some .lt || double.order x 4832362400168542208 == some .eq) = true)
    (h2 : (double.order x 14055734437023318016 == some .gt || double.order x 14055734437023318016 == some .eq) = true) :
    ∃ s r, x = double.word s r ∧ r < 9218868437227405312 ∧
      (if r < 4503599627370496 then r else (4503599627370496 + r % 4503599627370496) * 2 ^ (r / 4503599627370496 - 1)) ≤ 2 ^ 50 * U := by
  obtain ⟨s, r, rfl, hr⟩ := word_of x hx
  by_cases hf : r < 9218868437227405312
  · refine ⟨s, r, rfl, hf, ?_⟩
    have R := reads_of_rung s r hf
    generalize (if r < 4503599627370496 then r else (4503599627370496 + r % 4503599627370496) * 2 ^ (r / 4503599627370496 - 1)) = V at R ⊢
    rw [R.order reads_hi] at h1
    rw [R.order reads_lo] at h2
    generalize 2 ^ 50 * U = B at h1 h2 ⊢
    have k1 : ¬ (sg s V > sg false B) := by
      intro k
      have : compare (sg s V) (sg false B) = .gt := by
        simp only [compare, compareOfLessAndEq]
        rw [if_neg (by omega), if_neg (by omega)]
      rw [this] at h1
      exact absurd h1 (by decide)
    have k2 : ¬ (sg s V < sg true B) := by
      intro k
      have : compare (sg s V) (sg true B) = .lt := by
        simp only [compare, compareOfLessAndEq]
        rw [if_pos k]
      rw [this] at h2
      exact absurd h2 (by decide)
    unfold sg at k1 k2
    cases s <;> simp at k1 k2 <;> omega
  · exfalso
    obtain ⟨m1, i1, e1, _⟩ := reads_hi
    obtain ⟨m2, i2, e2, _⟩ := reads_lo
    unfold Format.order at h1 h2
    rw [e1] at h1
    rw [e2] at h2
    rcases read_big s r hf hr with k | ⟨t, k⟩
    · rw [k] at h1 h2
      cases s
      · exact absurd h1 (by simp [Datum.order])
      · exact absurd h2 (by simp [Datum.order])
    · rw [k] at h1
      exact absurd h1 (by simp [Datum.order])

theorem shifted (m j : Nat) : m * 2 ^ (j - E) / 2 ^ (E - j) = m * 2 ^ j / U ∧ (m * 2 ^ (j - E) % 2 ^ (E - j) = 0 ↔ m * 2 ^ j % U = 0) := by
  rw [U_pow]
  by_cases h : E ≤ j
  · have e : E - j = 0 := by omega
    have e2 : m * 2 ^ j = m * 2 ^ (j - E) * 2 ^ E := by rw [Nat.mul_assoc, ← Nat.pow_add, Nat.sub_add_cancel h]
    rw [e, e2, Nat.mul_div_cancel _ (Nat.two_pow_pos _), Nat.mul_mod_left]
    simp [Nat.mod_one]
  · have e : j - E = 0 := by omega
    have e2 : 2 ^ E = 2 ^ j * 2 ^ (E - j) := by rw [← Nat.pow_add]; congr 1; omega
    rw [e, e2, Nat.pow_zero, Nat.mul_one, Nat.mul_comm m, Nat.mul_div_mul_left _ _ (Nat.two_pow_pos _), Nat.mul_mod_mul_left]
    refine ⟨rfl, ?_⟩
    have := Nat.two_pow_pos j
    constructor
    · intro h; rw [h, Nat.mul_zero]
    · intro h
      rcases Nat.mul_eq_zero.1 h with h | h
      · omega
      · exact h

theorem cut_of {m j : Nat} (way : Toward) (s : Bool) : way.cut s (m <<< ((j : Int) - 1074).toNat) (-((j : Int) - 1074)).toNat = m * 2 ^ j / U + (match way with
      | .even => 2 ^ (E - j) < 2 * (m * 2 ^ (j - E) % 2 ^ (E - j)) || (2 ^ (E - j) == 2 * (m * 2 ^ (j - E) % 2 ^ (E - j)) && m * 2 ^ j / U % 2 == 1)
      | .down => s && m * 2 ^ j % U != 0
      | .up => !s && m * 2 ^ j % U != 0
      | .zero => false : Bool).toNat := by
  have hE := E_eq
  have e1 : ((j : Int) - 1074).toNat = j - E := by omega
  have e2 : (-((j : Int) - 1074)).toNat = E - j := by omega
  rw [e1, e2, cut_eq, Nat.shiftLeft_eq, (shifted m j).1]
  have hz : (m * 2 ^ (j - E) % 2 ^ (E - j) != 0) = (m * 2 ^ j % U != 0) := by
    rw [Bool.eq_iff_iff, bne_iff_ne, bne_iff_ne]
    exact not_congr (shifted m j).2
  rw [hz]
  cases way <;> rfl

/-- floor, ceil -/
theorem Reads.floor {x : Nat} {s : Bool} {V : Nat} (h : Reads x s V) (hV : V / U + 1 < 2 ^ 53) :
    Reads (flo x) s ((V / U + (s && V % U != 0).toNat) * U) := by
  obtain ⟨m, j, e, rfl⟩ := h
  have : flo x = double.nearest s (m * 2 ^ j / U + (s && m * 2 ^ j % U != 0).toNat) 0 := by
    show double.write ((double.read x).integral .down) = _
    rw [e]
    simp only [Datum.integral, Format.write, cut_of]
  rw [this]
  exact nearest_int _ _ (by have := Bool.toNat_le (s && m * 2 ^ j % U != 0); omega)
theorem Reads.ceil {x : Nat} {s : Bool} {V : Nat} (h : Reads x s V) (hV : V / U + 1 < 2 ^ 53) :
    Reads (cei x) s ((V / U + (!s && V % U != 0).toNat) * U) := by
  obtain ⟨m, j, e, rfl⟩ := h
  have : cei x = double.nearest s (m * 2 ^ j / U + (!s && m * 2 ^ j % U != 0).toNat) 0 := by
    show double.write ((double.read x).integral .up) = _
    rw [e]
    simp only [Datum.integral, Format.write, cut_of]
  rw [this]
  exact nearest_int _ _ (by have := Bool.toNat_le (!s && m * 2 ^ j % U != 0); omega)
/-- a float made whole -/
theorem Reads.whole {x : Nat} {s : Bool} {V : Nat} (h : Reads x s V) : (double.read x).toInt .zero = some (sg s (V / U)) := by
  obtain ⟨m, j, e, rfl⟩ := h
  unfold Datum.toInt
  rw [e]
  simp only [Datum.integral, cut_of, signed_eq, Bool.toNat_false, Nat.add_zero, Nat.pow_zero, Nat.mul_one]
/-- a whole number made a float -/
theorem floatOfInt_val (n : Int) (hn : n.natAbs < 2 ^ 53) : Val (floatOfInt .f64 n) (n * U) := by
  have h : Reads (floatOfInt .f64 n) (decide (n < 0)) (n.natAbs * U) := nearest_int _ _ hn
  refine ⟨_, _, h, ?_⟩
  rw [sg_mul]
  rw [← natAbs_cases n]

end Go.Proofs.YthmogfjmngbamaaGreatDoor.Flo
