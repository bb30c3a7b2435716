/- Plain facts on the words of float64, third part: what math.Round reckons on the bits, the amount, and the greater of two words. No condition. -/
import Derived.Test.YthmogfjmngbamaaGreatDoorFlo2
namespace Go.Proofs.YthmogfjmngbamaaGreatDoor.Flo
open Ieee

theorem word_eq (s : Bool) (r : Nat) : double.word s r = if s = true then 9223372036854775808 + r else r := by
  have e1 : double.signWeight = 9223372036854775808 := by decide
  unfold Format.word
  rw [e1]

theorem word_lt64 (s : Bool) (r : Nat) (hr : r < 9223372036854775808) : double.word s r < 18446744073709551616 := by
  rw [word_eq]; cases s <;> simp <;> omega

theorem expo_word (s : Bool) (r : Nat) (hr : r < 9223372036854775808) : expo (double.word s r) = ((r / 4503599627370496 : Nat) : Int) := by
  unfold expo
  have hx := word_lt64 s r hr
  have h1 : (((double.word s r : Nat) : Int) / 4503599627370496) = ((double.word s r / 4503599627370496 : Nat) : Int) := by omega
  have h2 : (2047 : Int) = ((2047 : Nat) : Int) := rfl
  rw [h1, h2, u64_and_nat _ _ (by omega) (by omega)]
  have h3 : (2047 : Nat) = 2 ^ 11 - 1 := by decide
  rw [h3, Nat.and_two_pow_sub_one_eq_mod]
  have h4 : (2 : Nat) ^ 11 = 2048 := by decide
  rw [h4, word_eq]
  congr 1
  cases s <;> simp <;> omega

theorem and_pow (a i : Nat) : a &&& 2 ^ i = if a.testBit i = true then 2 ^ i else 0 := by
  apply Nat.eq_of_testBit_eq
  intro j
  rw [Nat.testBit_and, Nat.testBit_two_pow]
  by_cases h : i = j
  · subst h
    by_cases k : a.testBit i = true
    · rw [if_pos k, Nat.testBit_two_pow]; simp [k]
    · rw [if_neg k]; simp [k]
  · by_cases k : a.testBit i = true
    · rw [if_pos k, Nat.testBit_two_pow]; simp [h]
    · rw [if_neg k]; simp [h]

theorem sign_word (s : Bool) (r : Nat) (hr : r < 9223372036854775808) : bits .and .u64 ((double.word s r : Nat) : Int) 9223372036854775808 = ((double.word s 0 : Nat) : Int) := by
  have hx := word_lt64 s r hr
  have h2 : (9223372036854775808 : Int) = ((9223372036854775808 : Nat) : Int) := rfl
  rw [h2, u64_and_nat _ _ hx (by omega)]
  have h3 : (9223372036854775808 : Nat) = 2 ^ 63 := by decide
  congr 1
  rw [h3, and_pow, Nat.testBit_eq_decide_div_mod_eq, word_eq, word_eq]
  have h4 : (2 : Nat) ^ 63 = 9223372036854775808 := by decide
  rw [h4]
  cases s
  · have : r / 9223372036854775808 % 2 = 0 := by omega
    simp [this]
  · have : (9223372036854775808 + r) / 9223372036854775808 % 2 = 1 := by omega
    simp only [if_true, this, decide_true, Nat.add_zero]

theorem clear_low (a p : Nat) (ha : a < 18446744073709551616) (hp : p ≤ 64) : a &&& (18446744073709551615 - (2 ^ p - 1)) = a / 2 ^ p * 2 ^ p := by
  have h64 : (18446744073709551616 : Nat) = 2 ^ 64 := by decide
  have hpos := Nat.two_pow_pos p
  have e : 18446744073709551615 - (2 ^ p - 1) = 2 ^ 64 - ((2 ^ p - 1) + 1) := by
    rw [← h64]; omega
  rw [e]
  apply Nat.eq_of_testBit_eq
  intro i
  have hple : 2 ^ p ≤ 2 ^ 64 := Nat.pow_le_pow_right (by omega) hp
  rw [Nat.testBit_and, Nat.testBit_two_pow_sub_succ (by omega), Nat.testBit_two_pow_sub_one, Nat.testBit_mul_two_pow, Nat.testBit_div_two_pow]
  by_cases hi : i < 64
  · by_cases hip : i < p
    · simp [hi, hip]; omega
    · have : p ≤ i := by omega
      simp [hi, hip, this]
  · have ht : a.testBit i = false := Nat.testBit_lt_two_pow (Nat.lt_of_lt_of_le ha (by rw [h64]; exact Nat.pow_le_pow_right (by omega) (by omega)))
    by_cases hip : p ≤ i
    · simp [ht, hip]
    · simp [ht, hip]

theorem U_split : U = 2 ^ 52 * 2 ^ (E - 52) := by
  have hE := E_eq
  rw [U_pow, ← Nat.pow_add, show 52 + (E - 52) = E from by omega]

theorem half_bool (q ρ d : Nat) (hd : 0 < d) (h : ρ < 2 * d) : (q * (2 * d) + ρ + d) / (2 * d) = q + (decide (d ≤ ρ)).toNat := by
  by_cases k : d ≤ ρ
  · have e : q * (2 * d) + ρ + d = (q + 1) * (2 * d) + (ρ - d) := by rw [Nat.add_mul]; omega
    rw [e, Nat.add_comm, Nat.add_mul_div_right _ _ (by omega), Nat.div_eq_of_lt (by omega)]
    simp [k]
  · have e : q * (2 * d) + ρ + d = (ρ + d) + q * (2 * d) := by omega
    rw [e, Nat.add_mul_div_right _ _ (by omega), Nat.div_eq_of_lt (by omega)]
    simp [k]

/-- math.Round -/
theorem round_word (s : Bool) (r : Nat) (hr : r < 9218868437227405312) (V : Nat)
    (hVr : V = (if r < 4503599627370496 then r else (4503599627370496 + r % 4503599627370496) * 2 ^ (r / 4503599627370496 - 1)))
    (hV : V ≤ 2 ^ 50 * U) : Reads (rou (double.word s r)) s ((V / U + (decide (H ≤ V % U)).toNat) * U) := by
  have hE := E_eq
  have hUH := U_H
  have hUp := U_pos
  obtain ⟨e, he⟩ : ∃ e, e = r / 4503599627370496 := ⟨_, rfl⟩
  have hex : expo (double.word s r) = (e : Int) := by rw [expo_word s r (by omega), he]
  have hsg := sign_word s r (by omega)
  unfold rou
  rw [hex, hsg]
  by_cases h1 : e < 1023
  · rw [if_pos (by omega)]
    by_cases h2 : e = 1022
    · -- from a half on, less than 1
      rw [if_pos (by omega)]
      have hw : (bits .or .u64 ((double.word s 0 : Nat) : Int) 4607182418800017408).toNat = double.word s 4607182418800017408 := by
        have h3 : (4607182418800017408 : Int) = ((4607182418800017408 : Nat) : Int) := rfl
        rw [h3, u64_or_nat _ _ (word_lt64 s 0 (by omega)) (by omega), word_eq, word_eq]
        cases s <;> decide
      rw [hw]
      have hb : ¬ r < 4503599627370496 := by omega
      rw [if_neg hb, ← he] at hVr
      have hlo : H ≤ V := by
        rw [hVr, H_pow, show E - 1 = 52 + (e - 1) from by omega, Nat.pow_add]
        exact Nat.mul_le_mul_right _ (by have : (2 : Nat) ^ 52 = 4503599627370496 := by decide
                                         omega)
      have hhi : V < U := by
        rw [hVr, U_pow, show E = 53 + (e - 1) from by omega, Nat.pow_add]
        exact Nat.mul_lt_mul_of_pos_right (by have : (2 : Nat) ^ 53 = 9007199254740992 := by decide
                                              omega) (Nat.two_pow_pos _)
      rw [Nat.div_eq_of_lt hhi, Nat.mod_eq_of_lt hhi, decide_eq_true hlo]
      have h := reads_rung s (E - 52) (2 ^ 52) (by omega) (by decide) (Or.inr (Nat.le_refl _))
      have e1 : (E - 52) * 4503599627370496 + 2 ^ 52 = 4607182418800017408 := by rw [E_eq]
      rw [e1, ← U_split] at h
      simpa using h
    · rw [if_neg (by omega)]
      rw [Int.toNat_natCast]
      have hlt : V < H := by
        rw [hVr]
        by_cases hb : r < 4503599627370496
        · rw [if_pos hb, H_pow]
          have : (2 : Nat) ^ 52 ≤ 2 ^ (E - 1) := Nat.pow_le_pow_right (by omega) (by omega)
          have h52 : (2 : Nat) ^ 52 = 4503599627370496 := by decide
          omega
        · rw [if_neg hb, H_pow, ← he, show E - 1 = 53 + (E - 54) from by omega, Nat.pow_add]
          have h53 : (2 : Nat) ^ 53 = 9007199254740992 := by decide
          refine Nat.lt_of_lt_of_le (Nat.mul_lt_mul_of_pos_right (show 4503599627370496 + r % 4503599627370496 < 2 ^ 53 by omega) (Nat.two_pow_pos _)) ?_
          exact Nat.mul_le_mul_left _ (Nat.pow_le_pow_right (by omega) (by omega))
      rw [Nat.div_eq_of_lt (by omega), Nat.mod_eq_of_lt (by omega), decide_eq_false (by omega)]
      simpa using reads_zero s
  · rw [if_neg (by omega)]
    have hb : ¬ r < 4503599627370496 := by omega
    rw [if_neg hb, ← he] at hVr
    have h52 : (2 : Nat) ^ 52 = 4503599627370496 := by decide
    have h53 : (2 : Nat) ^ 53 = 9007199254740992 := by decide
    have h2 : e < 1075 := by
      rcases Nat.lt_or_ge e 1075 with k | k
      · exact k
      · exfalso
        have hk : 2 ^ 52 * U ≤ V := by
          rw [hVr, U_pow]
          refine Nat.le_trans (Nat.mul_le_mul_left _ (Nat.pow_le_pow_right (j := e - 1) (by omega) (by omega))) ?_
          exact Nat.mul_le_mul_right _ (by omega)
        have : 2 ^ 52 * U ≤ 2 ^ 50 * U := Nat.le_trans hk hV
        have h50 : (2 : Nat) ^ 50 = 1125899906842624 := by decide
        rw [h52, h50] at this
        omega
    rw [if_pos (by omega)]
    obtain ⟨k, hk⟩ : ∃ k, e = 1023 + k := ⟨e - 1023, by omega⟩
    have hke : ((e : Int) - 1023).toNat = k := by omega
    rw [hke]
    have hkle : k ≤ 51 := by omega
    obtain ⟨p, hp⟩ : ∃ p, p = 51 - k := ⟨_, rfl⟩
    -- the shifted masks
    have hpow : (2 : Nat) ^ k * 2 ^ p = 2251799813685248 := by
      rw [← Nat.pow_add, show k + p = 51 from by omega]
    have hpp := Nat.two_pow_pos p
    have hkp := Nat.two_pow_pos k
    have hm1 : (2251799813685248 : Int) / 2 ^ k = ((2 ^ p : Nat) : Int) := by
      have h3 : (2251799813685248 : Int) / 2 ^ k = ((2251799813685248 / 2 ^ k : Nat) : Int) := by
        rw [Int.natCast_ediv, Int.natCast_pow]; rfl
      rw [h3, ← hpow, Nat.mul_div_cancel_left _ hkp]
    have hm2 : (4503599627370495 : Int) / 2 ^ k = ((2 ^ (p + 1) - 1 : Nat) : Int) := by
      have h3 : (4503599627370495 : Int) / 2 ^ k = ((4503599627370495 / 2 ^ k : Nat) : Int) := by
        rw [Int.natCast_ediv, Int.natCast_pow]; rfl
      rw [h3]
      congr 1
      have hp1 : (2 : Nat) ^ (p + 1) = 2 * 2 ^ p := by rw [Nat.pow_succ]; omega
      have h4 : 4503599627370495 = (2 ^ k - 1) + (2 ^ (p + 1) - 1) * 2 ^ k := by
        rw [Nat.sub_mul, hp1, Nat.mul_assoc, Nat.mul_comm (2 ^ p) (2 ^ k), hpow]
        have : 2 ^ k ≤ 2251799813685248 := by rw [← hpow]; exact Nat.le_mul_of_pos_right _ hpp
        omega
      rw [h4, Nat.add_mul_div_right _ _ hkp, Nat.div_eq_of_lt (by omega), Nat.zero_add]
    rw [hm1, hm2]
    have hp51 : 2 ^ p ≤ 2251799813685248 := by rw [← hpow]; exact Nat.le_mul_of_pos_left _ hkp
    have hsum : double.word s r + 2 ^ p < 18446744073709551616 := by
      rw [word_eq]; cases s <;> simp <;> omega
    have hwr : IntKind.u64.wrap (((double.word s r : Nat) : Int) + ((2 ^ p : Nat) : Int)) = ((double.word s r + 2 ^ p : Nat) : Int) := by
      rw [IntKind.wrap_u64]; omega
    rw [hwr, u64_andNot_nat _ _ hsum (by have : (2 : Nat) ^ (p + 1) ≤ 2 ^ 52 := Nat.pow_le_pow_right (by omega) (by omega)
                                         omega), Int.toNat_natCast, clear_low _ _ hsum (by omega)]
    -- the word behind it
    obtain ⟨D, hD⟩ : ∃ D, D = 2 ^ (p + 1) := ⟨_, rfl⟩
    obtain ⟨d, hd⟩ : ∃ d, d = 2 ^ p := ⟨_, rfl⟩
    have hDd : D = 2 * d := by rw [hD, hd, Nat.pow_succ]; omega
    rw [← hD, ← hd]
    have hdpos : 0 < d := by rw [hd]; exact hpp
    have hKD : (4503599627370496 : Nat) = 2 ^ k * D := by
      rw [hD, ← Nat.pow_add, show k + (p + 1) = 52 from by omega]
    obtain ⟨m, hm⟩ : ∃ m, m = 4503599627370496 + r % 4503599627370496 := ⟨_, rfl⟩
    rw [← hm] at hVr
    have hrm : r = (e - 1) * 4503599627370496 + m := by
      rw [hm, he]; omega
    obtain ⟨Q, hQ⟩ : ∃ Q, Q = m / D := ⟨_, rfl⟩
    obtain ⟨R, hR⟩ : ∃ R, R = m % D := ⟨_, rfl⟩
    have hmQ : m = Q * D + R := by rw [hQ, hR, Nat.mul_comm]; exact (Nat.div_add_mod m D).symm
    have hRlt : R < D := by rw [hR]; exact Nat.mod_lt _ (by omega)
    obtain ⟨B, hB⟩ : ∃ B, B = Q + (decide (d ≤ R)).toNat := ⟨_, rfl⟩
    have hdiv : (m + d) / D = B := by
      rw [hmQ, hDd, half_bool Q R d hdpos (by omega), hB]
    have hwd : (double.word s r + d) / D * D = double.word s ((e - 1) * 4503599627370496 + B * D) := by
      have h5 : (((e - 1) * 4503599627370496 + m) + d) / D * D = (e - 1) * 4503599627370496 + B * D := by
        have : (e - 1) * 4503599627370496 + m + d = (m + d) + (e - 1) * 2 ^ k * D := by
          rw [Nat.mul_assoc, ← hKD]; omega
        rw [this, Nat.add_mul_div_right _ _ (by omega), hdiv, Nat.add_mul, Nat.mul_assoc, ← hKD]; omega
      cases s
      · rw [word_eq, word_eq, if_neg (by simp), if_neg (by simp), hrm, h5]
      · rw [word_eq, word_eq, if_pos rfl, if_pos rfl]
        have : 9223372036854775808 + r + d = (r + d) + 2048 * 2 ^ k * D := by
          rw [Nat.mul_assoc, ← hKD]; omega
        rw [this, Nat.add_mul_div_right _ _ (by omega), Nat.add_mul, Nat.mul_assoc, ← hKD, hrm, h5]; omega
    rw [hwd]
    have hmlt : m < 9007199254740992 := by omega
    have hBle : B ≤ Q + 1 := by rw [hB]; have := Bool.toNat_le (decide (d ≤ R)); omega
    have hQlt : Q < 2 ^ k * 2 := by
      rw [hQ]
      refine (Nat.div_lt_iff_lt_mul (by omega)).2 ?_
      have : 2 ^ k * 2 * D = 9007199254740992 := by rw [Nat.mul_assoc, Nat.mul_comm 2 D, ← Nat.mul_assoc, ← hKD]
      omega
    have hBD : B * D ≤ 2 ^ 53 := by
      have h6 : B * D ≤ (2 ^ k * 2) * D := Nat.mul_le_mul_right _ (by omega)
      have : 2 ^ k * 2 * D = 9007199254740992 := by rw [Nat.mul_assoc, Nat.mul_comm 2 D, ← Nat.mul_assoc, ← hKD]
      omega
    have hBlow : 2 ^ 52 ≤ B * D := by
      have h6 : 2 ^ k ≤ Q := by
        rw [hQ]
        exact (Nat.le_div_iff_mul_le (by omega)).2 (by rw [← hKD]; omega)
      have h7 : 2 ^ k * D ≤ B * D := Nat.mul_le_mul_right _ (by omega)
      omega
    have h := reads_rung s (e - 1) (B * D) (by omega) hBD (Or.inr hBlow)
    -- what it stands for
    have hUD : U = D * 2 ^ (e - 1) := by
      rw [hD, U_pow, ← Nat.pow_add]
      rw [show p + 1 + (e - 1) = E from by omega]
    have hHd : H = d * 2 ^ (e - 1) := by
      rw [hd, H_pow, ← Nat.pow_add]
      rw [show p + (e - 1) = E - 1 from by omega]
    have hep := Nat.two_pow_pos (e - 1)
    have hVQ : V = R * 2 ^ (e - 1) + Q * U := by
      rw [hVr, hmQ, hUD, Nat.add_mul, Nat.mul_assoc, Nat.add_comm]
    have hRU : R * 2 ^ (e - 1) < U := by
      rw [hUD]; exact Nat.mul_lt_mul_of_pos_right hRlt hep
    have hVdiv : V / U = Q := by
      rw [hVQ, Nat.add_mul_div_right _ _ hUp, Nat.div_eq_of_lt hRU, Nat.zero_add]
    have hVmod : V % U = R * 2 ^ (e - 1) := by
      rw [hVQ, Nat.add_mul_mod_self_right, Nat.mod_eq_of_lt hRU]
    have hdec : decide (H ≤ V % U) = decide (d ≤ R) := by
      rw [hVmod, hHd]
      refine decide_eq_decide.2 ⟨fun h => Nat.le_of_mul_le_mul_right h hep, fun h => Nat.mul_le_mul_right _ h⟩
    rw [hVdiv, hdec, ← hB, hUD, ← Nat.mul_assoc]
    exact h

/-- the sign turned -/
theorem neg_word (s : Bool) (r : Nat) (hr : r < 9223372036854775808) : Op.negFloat .f64 (double.word s r) = double.word (!s) r := by
  have hx := word_lt64 s r hr
  have e : Op.negFloat .f64 (double.word s r) = double.word s r ^^^ 2 ^ 63 := rfl
  rw [e]
  have h63 : (2 : Nat) ^ 63 = 9223372036854775808 := by decide
  have hm : (double.word s r ^^^ 2 ^ 63) % 2 ^ 63 = r := by
    rw [Nat.xor_mod_two_pow, Nat.mod_self, Nat.xor_zero, h63, word_eq]
    cases s <;> simp <;> omega
  have hd : (double.word s r ^^^ 2 ^ 63) / 2 ^ 63 = if s = true then 0 else 1 := by
    rw [Nat.xor_div_two_pow, Nat.div_self (Nat.two_pow_pos _), h63, word_eq]
    cases s
    · have : r / 9223372036854775808 = 0 := by omega
      simp [this]
    · have : (9223372036854775808 + r) / 9223372036854775808 = 1 := by omega
      simp [this]
  have key := Nat.div_add_mod (double.word s r ^^^ 2 ^ 63) (2 ^ 63)
  rw [hm, hd] at key
  rw [← key, h63, word_eq]
  cases s <;> simp

end Go.Proofs.YthmogfjmngbamaaGreatDoor.Flo
