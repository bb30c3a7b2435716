/- Plain facts on the words of float64: what a word stands for in parts of 2 ^ -1074, that rounding keeps what has 53 digits and goes over no half, comparison, sum and difference. No condition. -/
import Derived.Laws.FloatArith
import Derived.Laws.BitsAllLaws
namespace Go.Proofs.YthmogfjmngbamaaGreatDoor.Flo
open Ieee

/-- the signed number of a sign and a magnitude -/
def sg (s : Bool) (V : Nat) : Int := if s then -(V : Int) else (V : Int)

/-- the word x stands for the finite number that is V / 2 ^ 1074, with the sign s -/
def Reads (x : Nat) (s : Bool) (V : Nat) : Prop :=
  ∃ (m : Nat) (i : Nat), double.read x = .number s m ((i : Int) - 1074) ∧ V = m * 2 ^ i

theorem signed_eq (s : Bool) (m k : Nat) : signed s m k = sg s (m * 2 ^ k) := by
  unfold signed sg
  rw [Nat.shiftLeft_eq]

theorem sg_mul (s : Bool) (a b : Nat) : sg s (a * b) = sg s a * (b : Int) := by
  unfold sg; cases s <;> simp [Int.neg_mul]

theorem read_word (s : Bool) (r : Nat) (h : r < 9218868437227405312) :
    double.read (double.word s r) = if r < 4503599627370496 then .number s r (-1074)
      else .number s (4503599627370496 + r % 4503599627370496) (-1074 + ((r / 4503599627370496 - 1 : Nat) : Int)) := by
  have e1 : double.signWeight = 9223372036854775808 := by decide
  have e2 : double.binade = 4503599627370496 := by decide
  have e3 : double.infRung = 9218868437227405312 := by decide
  have e4 : double.leastPlace = -1074 := by decide
  unfold Format.read Format.word
  rw [e1, e2, e3, e4]
  have hm : (if s = true then 9223372036854775808 + r else r) % 9223372036854775808 = r := by
    cases s <;> simp <;> omega
  have hn : ((if s = true then 9223372036854775808 + r else r) / 9223372036854775808 % 2 == 1) = s := by
    cases s
    · simp; omega
    · simp; omega
  simp only [hm, hn]
  by_cases hb : r < 4503599627370496
  · rw [if_pos hb, if_pos hb]
  · rw [if_neg hb, if_neg hb, if_pos h]

/-- a rung, read -/
theorem reads_rung (s : Bool) (a K : Nat) (ha : a ≤ 2040) (hK : K ≤ 2 ^ 53) (hn : a = 0 ∨ 2 ^ 52 ≤ K) :
    Reads (double.word s (a * 4503599627370496 + K)) s (K * 2 ^ a) := by
  have p53 : (2 : Nat) ^ 53 = 9007199254740992 := by decide
  have p52 : (2 : Nat) ^ 52 = 4503599627370496 := by decide
  rw [p53] at hK
  rw [p52] at hn
  unfold Reads
  rw [read_word s _ (by omega)]
  by_cases hb : a * 4503599627370496 + K < 4503599627370496
  · rw [if_pos hb]
    have ha0 : a = 0 := by omega
    subst ha0
    exact ⟨K, 0, by simp, by simp⟩
  · rw [if_neg hb]
    by_cases hk : K = 9007199254740992
    · subst hk
      refine ⟨4503599627370496, a + 1, ?_, by rw [Nat.pow_succ]; omega⟩
      have q1 : (a * 4503599627370496 + 9007199254740992) % 4503599627370496 = 0 := by omega
      have q2 : (a * 4503599627370496 + 9007199254740992) / 4503599627370496 - 1 = a + 1 := by omega
      rw [q1, q2]
      congr 1 <;> omega
    · refine ⟨K, a, ?_, rfl⟩
      have q1 : 4503599627370496 + (a * 4503599627370496 + K) % 4503599627370496 = K := by omega
      have q2 : (a * 4503599627370496 + K) / 4503599627370496 - 1 = a := by omega
      rw [q1, q2]
      congr 1 <;> omega

theorem cut_eq (way : Toward) (neg : Bool) (n drop : Nat) :
    way.cut neg n drop = n / 2 ^ drop + (match way with
      | .even => 2 ^ drop < 2 * (n % 2 ^ drop) || (2 ^ drop == 2 * (n % 2 ^ drop) && n / 2 ^ drop % 2 == 1)
      | .down => neg && n % 2 ^ drop != 0
      | .up => !neg && n % 2 ^ drop != 0
      | .zero => false : Bool).toNat := by
  have hlog : n < 2 ^ (n.log2 + 1) := Nat.lt_log2_self
  unfold Toward.cut
  simp only [Nat.shiftLeft_eq, Nat.one_mul]
  by_cases hd : drop ≤ n.log2 + 2
  · rw [Nat.min_eq_left hd]
    cases way <;> rfl
  · have hd' : n.log2 + 2 < drop := by omega
    rw [Nat.min_eq_right (by omega)]
    have h1 : (2 : Nat) ^ (n.log2 + 2) = 2 * 2 ^ (n.log2 + 1) := by rw [Nat.pow_succ]; omega
    have h2 : (2 : Nat) ^ (n.log2 + 2) < 2 ^ drop := Nat.pow_lt_pow_right (by omega) hd'
    have l1 : n / 2 ^ (n.log2 + 2) = 0 := Nat.div_eq_of_lt (by omega)
    have l2 : n / 2 ^ drop = 0 := Nat.div_eq_of_lt (by omega)
    have r1 : n % 2 ^ (n.log2 + 2) = n := Nat.mod_eq_of_lt (by omega)
    have r2 : n % 2 ^ drop = n := Nat.mod_eq_of_lt (by omega)
    rw [l1, l2, r1, r2]
    cases way
    · have b1 : decide (2 ^ (n.log2 + 2) < 2 * n) = false := by simp; omega
      have b2 : ((2 ^ (n.log2 + 2) : Nat) == 2 * n) = false := by
        rw [beq_eq_false_iff_ne]; omega
      have b3 : decide (2 ^ drop < 2 * n) = false := by simp; omega
      have b4 : ((2 ^ drop : Nat) == 2 * n) = false := by
        rw [beq_eq_false_iff_ne]; omega
      simp only [b1, b2, b3, b4]
    all_goals rfl


theorem Reads.sg_signed {m i base : Nat} (s : Bool) (h : base ≤ i) : sg s (m * 2 ^ i) = signed s m (i - base) * ((2 ^ base : Nat) : Int) := by
  rw [signed_eq, ← sg_mul, Nat.mul_assoc, ← Nat.pow_add, Nat.sub_add_cancel h]

theorem cmp_mul (a b : Int) (c : Nat) (hc : 0 < c) : compare (a * (c : Int)) (b * (c : Int)) = compare a b := by
  have hc' : (0 : Int) < (c : Int) := by omega
  simp only [compare, compareOfLessAndEq]
  have h1 : (a * (c : Int) < b * (c : Int)) ↔ a < b := Int.mul_lt_mul_right hc'
  have h2 : (a * (c : Int) = b * (c : Int)) ↔ a = b := by
    constructor
    · intro h; exact Int.eq_of_mul_eq_mul_right (by omega) h
    · intro h; rw [h]
  by_cases q : a < b
  · rw [if_pos q, if_pos (h1.2 q)]
  · rw [if_neg q, if_neg (fun k => q (h1.1 k))]
    by_cases q2 : a = b
    · rw [if_pos q2, if_pos (h2.2 q2)]
    · rw [if_neg q2, if_neg (fun k => q2 (h2.1 k))]

theorem Reads.order {x y : Nat} {s t : Bool} {V W : Nat} (hx : Reads x s V) (hy : Reads y t W) :
    double.order x y = some (compare (sg s V) (sg t W)) := by
  obtain ⟨m, i, ex, rfl⟩ := hx
  obtain ⟨n, j, ey, rfl⟩ := hy
  unfold Format.order
  rw [ex, ey]
  simp only [Datum.order]
  by_cases h : i ≤ j
  · have h1 : min ((i : Int) - 1074) ((j : Int) - 1074) = (i : Int) - 1074 := by omega
    have h2 : ((i : Int) - 1074 - ((i : Int) - 1074)).toNat = i - i := by omega
    have h3 : ((j : Int) - 1074 - ((i : Int) - 1074)).toNat = j - i := by omega
    rw [h1, h2, h3, Reads.sg_signed s (Nat.le_refl i), Reads.sg_signed t h, cmp_mul _ _ _ (Nat.two_pow_pos _)]
  · have h1 : min ((i : Int) - 1074) ((j : Int) - 1074) = (j : Int) - 1074 := by omega
    have h2 : ((i : Int) - 1074 - ((j : Int) - 1074)).toNat = i - j := by omega
    have h3 : ((j : Int) - 1074 - ((j : Int) - 1074)).toNat = j - j := by omega
    rw [h1, h2, h3, Reads.sg_signed s (show j ≤ i by omega), Reads.sg_signed t (Nat.le_refl j), cmp_mul _ _ _ (Nat.two_pow_pos _)]

/-- a bound on places -/
def L : Nat := 2000
theorem L_eq : L = 2000 := rfl
attribute [irreducible] L
/-- rounding: what 'nearest' gives for mag * 2 ^ t / 2 ^ 1074 -/
theorem nearest_reads (s : Bool) (mag t : Nat) (V : Nat) (hV : V = mag * 2 ^ t) (hlim : V < 2 ^ L) :
    ∃ K a : Nat, Reads (double.nearest s mag ((t : Int) - 1074)) s (K * 2 ^ a) ∧
      2 * (K * 2 ^ a) ≤ 2 * V + 2 ^ a ∧ 2 * V ≤ 2 * (K * 2 ^ a) + 2 ^ a ∧ (2 ^ a ∣ V → K * 2 ^ a = V) ∧ (a = 0 ∨ 2 ^ (52 + a) ≤ V) := by
  have e1 : double.fractionBits = 52 := rfl
  have e2 : double.binade = 4503599627370496 := by decide
  have e3 : double.infRung = 9218868437227405312 := by decide
  have e4 : double.leastPlace = -1074 := by decide
  unfold Format.nearest
  by_cases hm : mag = 0
  · rw [if_pos hm]
    subst hm
    refine ⟨0, 0, ?_, ?_⟩
    · simpa using reads_rung s 0 0 (by omega) (by simp) (Or.inl rfl)
    · subst hV; simp
  · rw [if_neg hm]
    simp only [e1, e2, e3, e4]
    have l1 : 2 ^ mag.log2 ≤ mag := Nat.log2_self_le hm
    have l2 : mag < 2 ^ (mag.log2 + 1) := Nat.lt_log2_self
    -- the exponent of the last digit
    obtain ⟨a, ha⟩ : ∃ a : Nat, a = t + mag.log2 - 52 := ⟨_, rfl⟩
    have hlast : max ((t : Int) - 1074 + (mag.log2 : Int) - ((52 : Nat) : Int)) (-1074) = (a : Int) - 1074 := by omega
    rw [hlast]
    have q1 : ((a : Int) - 1074 - -1074).toNat = a := by omega
    rw [q1]
    have hVlow : 2 ^ (t + mag.log2) ≤ V := by
      rw [hV, Nat.pow_add, Nat.mul_comm]; exact Nat.mul_le_mul_right _ l1
    have hVhigh : V < 2 ^ (t + mag.log2 + 1) := by
      rw [hV, Nat.add_assoc, Nat.pow_add, Nat.mul_comm]; exact Nat.mul_lt_mul_of_pos_left l2 (Nat.two_pow_pos _)
    have hE : t + mag.log2 < L := by
      rcases Nat.lt_or_ge (t + mag.log2) L with h | h
      · exact h
      · have := Nat.pow_le_pow_right (n := 2) (by omega) h
        omega
    have ha' : a ≤ 2000 := by have := L_eq; omega
    by_cases hta : a ≤ t
    · -- exact
      have q2 : ((t : Int) - 1074 - ((a : Int) - 1074)).toNat = t - a := by omega
      have q3 : ((a : Int) - 1074 - ((t : Int) - 1074)).toNat = 0 := by omega
      rw [q2, q3, cut_eq]
      have hcut : mag <<< (t - a) / 2 ^ 0 + ((2 ^ 0 < 2 * (mag <<< (t - a) % 2 ^ 0) || (2 ^ 0 == 2 * (mag <<< (t - a) % 2 ^ 0) && mag <<< (t - a) / 2 ^ 0 % 2 == 1) : Bool)).toNat = mag * 2 ^ (t - a) := by
        simp [Nat.shiftLeft_eq, Nat.mod_one]
      simp only [hcut]
      have hKV : mag * 2 ^ (t - a) * 2 ^ a = V := by
        rw [hV, Nat.mul_assoc, ← Nat.pow_add, Nat.sub_add_cancel hta]
      have hK53 : mag * 2 ^ (t - a) < 2 ^ 53 := by
        have : mag * 2 ^ (t - a) * 2 ^ a < 2 ^ 53 * 2 ^ a := by
          rw [hKV, ← Nat.pow_add]
          exact Nat.lt_of_lt_of_le hVhigh (Nat.pow_le_pow_right (by omega) (by omega))
        exact Nat.lt_of_mul_lt_mul_right this
      have hK52 : a = 0 ∨ 2 ^ 52 ≤ mag * 2 ^ (t - a) := by
        rcases Nat.eq_zero_or_pos a with h | h
        · exact Or.inl h
        · right
          have : 2 ^ 52 * 2 ^ a ≤ mag * 2 ^ (t - a) * 2 ^ a := by
            rw [hKV, ← Nat.pow_add]
            exact Nat.le_trans (Nat.pow_le_pow_right (by omega) (by omega)) hVlow
          exact Nat.le_of_mul_le_mul_right this (Nat.two_pow_pos _)
      refine ⟨mag * 2 ^ (t - a), a, ?_, ?_⟩
      · have p53 : (2 : Nat) ^ 53 = 9007199254740992 := by decide
        rw [Nat.min_eq_left (by omega)]
        exact reads_rung s a _ (by omega) (by omega) hK52
      · rw [hKV]
        refine ⟨Nat.le_add_right _ _, Nat.le_add_right _ _, fun _ => rfl, ?_⟩
        rcases Nat.eq_zero_or_pos a with h | h
        · exact Or.inl h
        · exact Or.inr (Nat.le_trans (Nat.pow_le_pow_right (by omega) (by omega)) hVlow)
    · -- rounded
      have hta' : t < a := by omega
      have q2 : ((t : Int) - 1074 - ((a : Int) - 1074)).toNat = 0 := by omega
      have q3 : ((a : Int) - 1074 - ((t : Int) - 1074)).toNat = a - t := by omega
      rw [q2, q3, cut_eq]
      have hsh : mag <<< 0 = mag := by simp
      rw [hsh]
      obtain ⟨d, hd⟩ : ∃ d, d = a - t := ⟨_, rfl⟩
      rw [← hd]
      have hdpos : 0 < d := by omega
      have had : a = t + d := by omega
      have hVa : V / 2 ^ a = mag / 2 ^ d := by
        rw [hV, had, Nat.pow_add, Nat.mul_comm, Nat.mul_div_mul_left _ _ (Nat.two_pow_pos _)]
      have hVm : V % 2 ^ a = mag % 2 ^ d * 2 ^ t := by
        rw [hV, had, Nat.pow_add, Nat.mul_comm, Nat.mul_mod_mul_left, Nat.mul_comm]
      have hdm := Nat.div_add_mod V (2 ^ a)
      obtain ⟨Q, hQ⟩ : ∃ Q, Q = V / 2 ^ a := ⟨_, rfl⟩
      obtain ⟨R, hR⟩ : ∃ R, R = V % 2 ^ a := ⟨_, rfl⟩
      have hRlt : R < 2 ^ a := by rw [hR]; exact Nat.mod_lt _ (Nat.two_pow_pos _)
      rw [← hQ, ← hR] at hdm
      have hQ52 : 2 ^ 52 ≤ Q := by
        rw [hQ]; exact (Nat.le_div_iff_mul_le (Nat.two_pow_pos _)).2 (by rw [← Nat.pow_add]; exact Nat.le_trans (Nat.pow_le_pow_right (by omega) (by omega)) hVlow)
      have hQ53 : Q < 2 ^ 53 := by
        rw [hQ]; exact (Nat.div_lt_iff_lt_mul (Nat.two_pow_pos _)).2 (by rw [← Nat.pow_add]; exact Nat.lt_of_lt_of_le hVhigh (Nat.pow_le_pow_right (by omega) (by omega)))
      have hpa : 2 ^ a = 2 ^ d * 2 ^ t := by rw [had, Nat.pow_add, Nat.mul_comm]
      -- the round-up bit
      obtain ⟨up, hup⟩ : ∃ up : Bool, up = (decide (2 ^ d < 2 * (mag % 2 ^ d)) || (2 ^ d == 2 * (mag % 2 ^ d) && mag / 2 ^ d % 2 == 1)) := ⟨_, rfl⟩
      have hup1 : up = true → 2 ^ a ≤ 2 * R := by
        intro h
        rw [hup] at h
        have : 2 ^ d ≤ 2 * (mag % 2 ^ d) := by
          simp only [Bool.or_eq_true, decide_eq_true_eq, Bool.and_eq_true, beq_iff_eq] at h
          omega
        rw [hR, hVm, hpa, ← Nat.mul_assoc]
        exact Nat.mul_le_mul_right _ this
      have hup0 : up = false → 2 * R ≤ 2 ^ a := by
        intro h
        rw [hup] at h
        have : 2 * (mag % 2 ^ d) ≤ 2 ^ d := by
          simp only [Bool.or_eq_false_iff, decide_eq_false_iff_not] at h
          omega
        rw [hR, hVm, hpa, ← Nat.mul_assoc]
        exact Nat.mul_le_mul_right _ this
      have hcut : mag / 2 ^ d + (decide (2 ^ d < 2 * (mag % 2 ^ d)) || (2 ^ d == 2 * (mag % 2 ^ d) && mag / 2 ^ d % 2 == 1)).toNat = Q + up.toNat := by
        rw [hup, hQ, hVa]
      simp only [hcut]
      have hK53 : Q + up.toNat ≤ 2 ^ 53 := by
        have : up.toNat ≤ 1 := Bool.toNat_le up
        omega
      refine ⟨Q + up.toNat, a, ?_, ?_⟩
      · have p53 : (2 : Nat) ^ 53 = 9007199254740992 := by decide
        rw [Nat.min_eq_left (by omega)]
        exact reads_rung s a _ (by omega) hK53 (Or.inr (by omega))
      · have hVQ : V = Q * 2 ^ a + R := by rw [Nat.mul_comm]; omega
        rw [Nat.add_mul]
        cases up
        · have := hup0 rfl
          simp only [Bool.toNat_false, Nat.zero_mul, Nat.add_zero]
          refine ⟨by omega, by omega, ?_, Or.inr ?_⟩
          · rintro ⟨c, hc⟩
            have : R = 0 := by rw [hR, hc, Nat.mul_mod_right]
            omega
          · exact Nat.le_trans (Nat.pow_le_pow_right (by omega) (by omega)) hVlow
        · have := hup1 rfl
          simp only [Bool.toNat_true, Nat.one_mul]
          refine ⟨by omega, by omega, ?_, Or.inr ?_⟩
          · rintro ⟨c, hc⟩
            have h0 : R = 0 := by rw [hR, hc, Nat.mul_mod_right]
            have := Nat.two_pow_pos a
            omega
          · exact Nat.le_trans (Nat.pow_le_pow_right (by omega) (by omega)) hVlow

/-- a number that has at most 53 digits is not rounded -/
theorem nearest_exact (s : Bool) (mag t V M e : Nat) (hV : V = mag * 2 ^ t) (hlim : V < 2 ^ L) (hM : V = M * 2 ^ e) (hM53 : M < 2 ^ 53) :
    Reads (double.nearest s mag ((t : Int) - 1074)) s V := by
  obtain ⟨K, a, hr, _, _, hex, ha⟩ := nearest_reads s mag t V hV hlim
  have hdiv : 2 ^ a ∣ V := by
    rcases ha with h | h
    · subst h; simp
    · have h1 : V < 2 ^ (53 + e) := by
        rw [hM, Nat.pow_add]; exact Nat.mul_lt_mul_of_pos_right hM53 (Nat.two_pow_pos _)
      have h2 : 52 + a < 53 + e := by
        rcases Nat.lt_or_ge (52 + a) (53 + e) with k | k
        · exact k
        · have := Nat.pow_le_pow_right (n := 2) (by omega) k
          omega
      rw [hM]
      exact Nat.dvd_trans (Nat.pow_dvd_pow 2 (by omega)) (Nat.dvd_mul_left _ _)
  rw [hex hdiv] at hr
  exact hr

/-- the place of the unit -/
def E : Nat := 1074
theorem E_eq : E = 1074 := rfl
attribute [irreducible] E
/-- the unit: what 1 is, in parts of 2 ^ -1074 -/
def U : Nat := 2 ^ E
theorem U_pow : U = 2 ^ E := rfl
attribute [irreducible] U
theorem U_pos : 0 < U := by rw [U_pow]; exact Nat.two_pow_pos _
theorem U_lt (q : Nat) (hq : q < 2 ^ 53) : q * U < 2 ^ L := by
  have : q * U < 2 ^ 53 * U := Nat.mul_lt_mul_of_pos_right hq U_pos
  rw [U_pow, ← Nat.pow_add] at this
  rw [U_pow]
  have e1 := E_eq
  have e2 := L_eq
  exact Nat.lt_trans this (Nat.pow_lt_pow_right (by omega) (by omega))

/-- the number a whole number stands for as a float -/
theorem nearest_int (s : Bool) (q : Nat) (hq : q < 2 ^ 53) : Reads (double.nearest s q 0) s (q * U) := by
  have := nearest_exact s q E (q * U) q E (by rw [U_pow]) (U_lt q hq) (by rw [U_pow]) hq
  have e : ((E : Nat) : Int) - 1074 = 0 := by rw [E_eq]; decide
  rw [e] at this
  exact this

theorem sg_natAbs (s : Bool) (V : Nat) : (sg s V).natAbs = V := by unfold sg; cases s <;> simp

/-- the sum of two finite numbers, ahead of rounding -/
theorem Reads.sum {x y : Nat} {s t : Bool} {V W : Nat} (hx : Reads x s V) (hy : Reads y t W) :
    ∃ mag b : Nat, mag * 2 ^ b = (sg s V + sg t W).natAbs ∧
      double.add x y = some (double.nearest (if sg s V + sg t W = 0 then s && t else decide (sg s V + sg t W < 0)) mag ((b : Int) - 1074)) := by
  obtain ⟨m, i, ex, rfl⟩ := hx
  obtain ⟨n, j, ey, rfl⟩ := hy
  obtain ⟨b, hb⟩ : ∃ b : Nat, b = min i j := ⟨_, rfl⟩
  have hbi : b ≤ i := by omega
  have hbj : b ≤ j := by omega
  have hpos : (0 : Int) < ((2 ^ b : Nat) : Int) := by have := Nat.two_pow_pos b; omega
  have htot : sg s (m * 2 ^ i) + sg t (n * 2 ^ j) = (signed s m (i - b) + signed t n (j - b)) * ((2 ^ b : Nat) : Int) := by
    rw [Reads.sg_signed s hbi, Reads.sg_signed t hbj, Int.add_mul]
  refine ⟨(signed s m (i - b) + signed t n (j - b)).natAbs, b, ?_, ?_⟩
  · rw [htot, Int.natAbs_mul, Int.natAbs_natCast]
  · unfold Format.add
    rw [ex, ey]
    have h1 : min ((i : Int) - 1074) ((j : Int) - 1074) = (b : Int) - 1074 := by omega
    have h2 : ((i : Int) - 1074 - ((b : Int) - 1074)).toNat = i - b := by omega
    have h3 : ((j : Int) - 1074 - ((b : Int) - 1074)).toNat = j - b := by omega
    simp only [Datum.sum, h1, h2, h3, Option.map_some, Format.write]
    have hz : (sg s (m * 2 ^ i) + sg t (n * 2 ^ j) = 0) ↔ (signed s m (i - b) + signed t n (j - b) = 0) := by
      rw [htot]
      constructor
      · intro h; rcases Int.mul_eq_zero.1 h with h | h
        · exact h
        · omega
      · intro h; rw [h, Int.zero_mul]
    have hn : (sg s (m * 2 ^ i) + sg t (n * 2 ^ j) < 0) ↔ (signed s m (i - b) + signed t n (j - b) < 0) := by
      rw [htot]
      constructor
      · intro h
        rcases Int.lt_or_le (signed s m (i - b) + signed t n (j - b)) 0 with k | k
        · exact k
        · have := Int.mul_nonneg k (Int.le_of_lt hpos); omega
      · intro h; exact Int.mul_neg_of_neg_of_pos h hpos
    congr 2
    by_cases q : signed s m (i - b) + signed t n (j - b) = 0
    · rw [if_pos q, if_pos (hz.2 q)]
    · rw [if_neg q, if_neg (fun k => q (hz.1 k))]
      exact decide_eq_decide.2 hn.symm

theorem opposite_reads {y : Nat} {t : Bool} {W : Nat} (hy : Reads y t W) : ∃ n j : Nat, (double.read y).opposite = .number (!t) n ((j : Int) - 1074) ∧ W = n * 2 ^ j := by
  obtain ⟨n, j, ey, rfl⟩ := hy
  exact ⟨n, j, by rw [ey]; rfl, rfl⟩

theorem sg_not (t : Bool) (W : Nat) : sg (!t) W = - sg t W := by unfold sg; cases t <;> simp

/-- the difference of two finite numbers, ahead of rounding -/
theorem Reads.diff {x y : Nat} {s t : Bool} {V W : Nat} (hx : Reads x s V) (hy : Reads y t W) :
    ∃ mag b : Nat, mag * 2 ^ b = (sg s V - sg t W).natAbs ∧
      double.sub x y = some (double.nearest (if sg s V - sg t W = 0 then s && !t else decide (sg s V - sg t W < 0)) mag ((b : Int) - 1074)) := by
  obtain ⟨m, i, ex, rfl⟩ := hx
  obtain ⟨n, j, ey, rfl⟩ := opposite_reads hy
  obtain ⟨b, hb⟩ : ∃ b : Nat, b = min i j := ⟨_, rfl⟩
  have hbi : b ≤ i := by omega
  have hbj : b ≤ j := by omega
  have hpos : (0 : Int) < ((2 ^ b : Nat) : Int) := by have := Nat.two_pow_pos b; omega
  have htot : sg s (m * 2 ^ i) - sg t (n * 2 ^ j) = (signed s m (i - b) + signed (!t) n (j - b)) * ((2 ^ b : Nat) : Int) := by
    rw [Int.sub_eq_add_neg, ← sg_not, Reads.sg_signed s hbi, Reads.sg_signed (!t) hbj, Int.add_mul]
  refine ⟨(signed s m (i - b) + signed (!t) n (j - b)).natAbs, b, ?_, ?_⟩
  · rw [htot, Int.natAbs_mul, Int.natAbs_natCast]
  · unfold Format.sub
    rw [ex, ey]
    have h1 : min ((i : Int) - 1074) ((j : Int) - 1074) = (b : Int) - 1074 := by omega
    have h2 : ((i : Int) - 1074 - ((b : Int) - 1074)).toNat = i - b := by omega
    have h3 : ((j : Int) - 1074 - ((b : Int) - 1074)).toNat = j - b := by omega
    simp only [Datum.sum, h1, h2, h3, Option.map_some, Format.write]
    have hz : (sg s (m * 2 ^ i) - sg t (n * 2 ^ j) = 0) ↔ (signed s m (i - b) + signed (!t) n (j - b) = 0) := by
      rw [htot]
      constructor
      · intro h; rcases Int.mul_eq_zero.1 h with h | h
        · exact h
        · omega
      · intro h; rw [h, Int.zero_mul]
    have hn : (sg s (m * 2 ^ i) - sg t (n * 2 ^ j) < 0) ↔ (signed s m (i - b) + signed (!t) n (j - b) < 0) := by
      rw [htot]
      constructor
      · intro h
        rcases Int.lt_or_le (signed s m (i - b) + signed (!t) n (j - b)) 0 with k | k
        · exact k
        · have := Int.mul_nonneg k (Int.le_of_lt hpos); omega
      · intro h; exact Int.mul_neg_of_neg_of_pos h hpos
    congr 2
    by_cases q : signed s m (i - b) + signed (!t) n (j - b) = 0
    · rw [if_pos q, if_pos (hz.2 q)]
    · rw [if_neg q, if_neg (fun k => q (hz.1 k))]
      exact decide_eq_decide.2 hn.symm

/-- half of the unit -/
def H : Nat := 2 ^ (E - 1)
theorem H_pow : H = 2 ^ (E - 1) := rfl
attribute [irreducible] H
theorem U_H : U = 2 * H := by
  rw [U_pow, H_pow]
  have := E_eq
  rw [show E = (E - 1) + 1 from by omega, Nat.pow_succ, Nat.add_sub_cancel]
  omega

/-- the word x stands for v / 2 ^ 1074 -/
def Val (x : Nat) (v : Int) : Prop := ∃ s V, Reads x s V ∧ v = sg s V

theorem Val.order {x y : Nat} {v w : Int} (hx : Val x v) (hy : Val y w) : double.order x y = some (compare v w) := by
  obtain ⟨s, V, rx, rfl⟩ := hx
  obtain ⟨t, W, ry, rfl⟩ := hy
  exact rx.order ry

theorem natAbs_cases (a : Int) : a = sg (decide (a < 0)) a.natAbs := by
  unfold sg
  by_cases h : a < 0
  · simp only [h, decide_true, if_true]; omega
  · simp only [h, decide_false, Bool.false_eq_true, if_false]; omega

theorem sg_zero (s : Bool) : sg s 0 = 0 := by unfold sg; cases s <;> simp

/-- the sign of a sum, whichever a zero bears -/
theorem sg_sum (a : Int) (b : Bool) : sg (if a = 0 then b else decide (a < 0)) a.natAbs = a := by
  by_cases h : a = 0
  · subst h; rw [if_pos rfl]; exact sg_zero b
  · rw [if_neg h]; exact (natAbs_cases a).symm

theorem Val.add {x y : Nat} {v w : Int} (hx : Val x v) (hy : Val y w) (M e : Nat) (hM : (v + w).natAbs = M * 2 ^ e) (hM53 : M < 2 ^ 53) (hlim : (v + w).natAbs < 2 ^ L) :
    ∃ r, double.add x y = some r ∧ Val r (v + w) := by
  obtain ⟨s, V, rx, rfl⟩ := hx
  obtain ⟨t, W, ry, rfl⟩ := hy
  obtain ⟨mag, b, hmb, hadd⟩ := rx.sum ry
  have hr := nearest_exact (if sg s V + sg t W = 0 then s && t else decide (sg s V + sg t W < 0)) mag b _ M e hmb.symm hlim hM hM53
  exact ⟨_, hadd, _, _, hr, (sg_sum _ _).symm⟩

theorem Val.sub {x y : Nat} {v w : Int} (hx : Val x v) (hy : Val y w) (M e : Nat) (hM : (v - w).natAbs = M * 2 ^ e) (hM53 : M < 2 ^ 53) (hlim : (v - w).natAbs < 2 ^ L) :
    ∃ r, double.sub x y = some r ∧ Val r (v - w) := by
  obtain ⟨s, V, rx, rfl⟩ := hx
  obtain ⟨t, W, ry, rfl⟩ := hy
  obtain ⟨mag, b, hmb, hsub⟩ := rx.diff ry
  have hr := nearest_exact (if sg s V - sg t W = 0 then s && !t else decide (sg s V - sg t W < 0)) mag b _ M e hmb.symm hlim hM hM53
  exact ⟨_, hsub, _, _, hr, (sg_sum _ _).symm⟩

/-- a number between 0 and 1 that is rounded does not go over the half -/
theorem half_of {K a W : Nat} (h1 : 2 * (K * 2 ^ a) ≤ 2 * W + 2 ^ a) (h2 : 2 * W ≤ 2 * (K * 2 ^ a) + 2 ^ a) (h3 : a = 0 ∨ 2 ^ (52 + a) ≤ W) (hW : W < U) :
    (W ≤ H → K * 2 ^ a ≤ H) ∧ (H ≤ W → H ≤ K * 2 ^ a) := by
  have haE : a < E - 1 := by
    rcases h3 with h | h
    · subst h; have := E_eq; omega
    · rw [U_pow] at hW
      have h5 : 52 + a < E := by
        rcases Nat.lt_or_ge (52 + a) E with k | k
        · exact k
        · have := Nat.pow_le_pow_right (n := 2) (by omega) k; omega
      omega
  obtain ⟨c, hc⟩ : ∃ c, H = c * 2 ^ a := ⟨2 ^ (E - 1 - a), by rw [H_pow, ← Nat.pow_add]; congr 1; omega⟩
  have hp := Nat.two_pow_pos a
  constructor
  · intro h
    rw [hc] at h ⊢
    have : 2 * (K * 2 ^ a) < 2 * (c * 2 ^ a) + 2 * 2 ^ a := by omega
    have h6 : K < c + 1 := by
      refine Nat.lt_of_mul_lt_mul_right (a := 2 ^ a) ?_
      rw [Nat.add_mul]; omega
    exact Nat.mul_le_mul_right _ (by omega)
  · intro h
    rw [hc] at h ⊢
    have h6 : c < K + 1 := by
      refine Nat.lt_of_mul_lt_mul_right (a := 2 ^ a) ?_
      rw [Nat.add_mul]; omega
    exact Nat.mul_le_mul_right _ (by omega)

/-- a difference between 0 and 1, rounded -/
theorem Val.sub_half {x y : Nat} {v w : Int} (hx : Val x v) (hy : Val y w) (W : Nat) (hW : v - w = (W : Int)) (hU : W < U) :
    ∃ r R, double.sub x y = some r ∧ Val r ((R : Nat) : Int) ∧ (W ≤ H → R ≤ H) ∧ (H ≤ W → H ≤ R) := by
  obtain ⟨s, V, rx, rfl⟩ := hx
  obtain ⟨t, W', ry, rfl⟩ := hy
  obtain ⟨mag, b, hmb, hsub⟩ := rx.diff ry
  have hlim : W < 2 ^ L := by
    have h1 := U_lt 1 (by decide)
    omega
  have hWn : (sg s V - sg t W').natAbs = W := by omega
  obtain ⟨K, a, hr, k1, k2, _, k4⟩ := nearest_reads (if sg s V - sg t W' = 0 then s && !t else decide (sg s V - sg t W' < 0)) mag b W (by rw [← hWn]; exact hmb.symm) hlim
  obtain ⟨k5, k6⟩ := half_of k1 k2 k4 hU
  refine ⟨_, K * 2 ^ a, hsub, ⟨_, _, hr, ?_⟩, k5, k6⟩
  by_cases h0 : sg s V - sg t W' = 0
  · have hW0 : W = 0 := by omega
    have : K * 2 ^ a = 0 := by
      subst hW0
      rcases k4 with h | h
      · subst h; simp only [Nat.pow_zero, Nat.mul_one] at k1 ⊢; omega
      · have := Nat.two_pow_pos (52 + a); omega
    rw [this, sg_zero]; rfl
  · rw [if_neg h0]
    have : ¬ (sg s V - sg t W' < 0) := by omega
    simp only [this, decide_false]
    unfold sg; simp

end Go.Proofs.YthmogfjmngbamaaGreatDoor.Flo
