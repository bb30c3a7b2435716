/- A whole number's digits: laws.cuDigits returns the decimal numeral, and strconv.Atoi's reading of that numeral is the number. Conditions: the number is an int64. -/
import Derived.Test.YthmogfjmngbamaaGreatDoorBase
import Derived.Lib.ItoaMem
import Derived.Lib.AtoiAll
import Derived.Lib.ItoaLen
namespace Go.Proofs.YthmogfjmngbamaaGreatDoor
open Go.RowKit

/-- the numeral as a string -/
def dig (n : Int) : ByteArray := ⟨(Lib.itoa n).toArray⟩
theorem dig_size (n : Int) (h0 : -9223372036854775808 ≤ n) (h1 : n ≤ 9223372036854775807) : (dig n).size ≤ 21 := by
  have := Lib.itoa_length_le n h0 h1
  show (Lib.itoa n).toArray.size ≤ 21
  rw [List.size_toArray]; exact this

theorem decDigits_small {u : Nat} (h : u < 10) : Lib.decDigits u = [UInt8.ofNat (48 + u)] := by rw [Lib.decDigits, dif_pos h]
theorem decDigits_big {u : Nat} (h : ¬ u < 10) : Lib.decDigits u = Lib.decDigits (u / 10) ++ [UInt8.ofNat (48 + u % 10)] := by rw [Lib.decDigits, dif_neg h]

theorem enc_digit (d : Nat) (h : d < 10) : Utf8.encode (48 + (d : Int)) = ⟨#[UInt8.ofNat (48 + d)]⟩ := by
  match d, h with
  | 0, _ | 1, _ | 2, _ | 3, _ | 4, _ | 5, _ | 6, _ | 7, _ | 8, _ | 9, _ => rfl

theorem dig_snoc (l : List UInt8) (c : UInt8) : (⟨l.toArray⟩ : ByteArray) ++ (⟨#[c]⟩ : ByteArray) = ⟨(l ++ [c]).toArray⟩ := by
  apply ByteArray.ext
  simp

/-- from 10 on -/
theorem dig_up (n : Int) (h : 10 ≤ n) : dig (n / 10) ++ Utf8.encode (48 + n % 10) = dig n := by
  obtain ⟨u, rfl⟩ : ∃ u : Nat, n = (u : Int) := ⟨n.toNat, by omega⟩
  have e1 : (u : Int) / 10 = ((u / 10 : Nat) : Int) := by omega
  have e2 : (u : Int) % 10 = ((u % 10 : Nat) : Int) := by omega
  rw [e1, e2, enc_digit _ (Nat.mod_lt _ (by decide))]
  unfold dig
  rw [Lib.itoa_nonneg, Lib.itoa_nonneg, dig_snoc, ← decDigits_big (by omega)]
/-- from -10 down -/
theorem dig_down (n : Int) (h : n ≤ -10) : dig (n.tdiv 10) ++ Utf8.encode (48 - n.tmod 10) = dig n := by
  obtain ⟨u, rfl⟩ : ∃ u : Nat, n = -(u : Int) := ⟨n.natAbs, by omega⟩
  have e1 : (-(u : Int)).tdiv 10 = -((u / 10 : Nat) : Int) := by rw [Int.neg_tdiv]; rfl
  have e2 : 48 - (-(u : Int)).tmod 10 = 48 + ((u % 10 : Nat) : Int) := by
    rw [Int.neg_tmod]
    have : (u : Int).tmod 10 = ((u % 10 : Nat) : Int) := rfl
    omega
  rw [e1, e2, enc_digit _ (Nat.mod_lt _ (by decide))]
  unfold dig
  rw [Lib.itoa_neg _ (by omega), Lib.itoa_neg _ (by omega), dig_snoc, List.cons_append, ← decDigits_big (by omega)]
theorem trunc_ten (n : Int) (h : n ≤ 0) : n.tdiv 10 = -((-n) / 10) ∧ n.tmod 10 = -((-n) % 10) := by
  obtain ⟨u, rfl⟩ : ∃ u : Nat, n = -(u : Int) := ⟨n.natAbs, by omega⟩
  rw [Int.neg_tdiv, Int.neg_tmod]
  have e1 : (u : Int).tdiv 10 = ((u / 10 : Nat) : Int) := rfl
  have e2 : (u : Int).tmod 10 = ((u % 10 : Nat) : Int) := rfl
  rw [e1, e2]
  omega
theorem dig_one (n : Int) (h0 : 0 ≤ n) (h1 : n < 10) : Utf8.encode (48 + n) = dig n := by
  obtain ⟨u, rfl⟩ : ∃ u : Nat, n = (u : Int) := ⟨n.toNat, by omega⟩
  rw [enc_digit _ (by omega)]
  unfold dig
  rw [Lib.itoa_nonneg, decDigits_small (by omega)]
theorem dig_minus (n : Int) (h0 : n < 0) (h1 : -10 < n) : (⟨#[45]⟩ : ByteArray) ++ Utf8.encode (48 - n) = dig n := by
  obtain ⟨u, rfl⟩ : ∃ u : Nat, n = -(u : Int) := ⟨n.natAbs, by omega⟩
  have e : 48 - (-(u : Int)) = 48 + (u : Int) := by omega
  rw [e, enc_digit _ (by omega)]
  unfold dig
  rw [Lib.itoa_neg _ (by omega), decDigits_small (by omega)]
  apply ByteArray.ext
  simp

theorem enc_size (d : Int) (h0 : 0 ≤ d) (h : d < 10) : (Utf8.encode (48 + d)).size = 1 := by
  obtain ⟨u, rfl⟩ : ∃ u : Nat, d = (u : Int) := ⟨d.toNat, by omega⟩
  rw [enc_digit _ (by omega)]; rfl

theorem ret_s {a b : ByteArray} (h : a = b) : Ending.returned (.string a) = .returned (.string b) := by rw [h]

set_option maxRecDepth 100000 in
set_option maxHeartbeats 400000 in
theorem f12_one (n : Int) (h0 : 0 ≤ n) (h1 : n < 10) (w : World) :
    Calls Tryz.prog 12 #[.int .i64 n] w fun e w' => e = .returned (.string (dig n)) ∧ w = w' := by
  have E := Lib.hid (dig_one n h0 h1)
  go_enter Tryz.func12, Tryz.ntmps12
  go_wp2_with fail
  go_returns
  exact ⟨ret_s E.out, rfl⟩
set_option maxRecDepth 100000 in
set_option maxHeartbeats 400000 in
theorem f12_up (n : Int) (h0 : 10 ≤ n) (h1 : n ≤ 9223372036854775807) (w : World) (ih : ∀ w, Calls Tryz.prog 12 #[.int .i64 (n / 10)] w fun e w' => e = .returned (.string (dig (n / 10))) ∧ w = w') :
    Calls Tryz.prog 12 #[.int .i64 n] w fun e w' => e = .returned (.string (dig n)) ∧ w = w' := by
  have E := Lib.hid (dig_up n h0)
  have hsz : ¬ 9223372036854775807 < (dig (n / 10)).size + (Utf8.encode (48 + n % 10)).size := by
    have := dig_size (n / 10) (by omega) (by omega)
    have := enc_size (n % 10) (by omega) (by omega)
    omega
  have IH := Lib.hid ih
  clear ih
  go_enter Tryz.func12, Tryz.ntmps12
  go_wp2_with fail
  refine (IH.out _).mono ?_
  rintro e w' ⟨rfl, rfl⟩
  go_wp2_with fail
  go_returns
  exact ⟨ret_s E.out, rfl⟩
set_option maxRecDepth 100000 in
set_option maxHeartbeats 400000 in
theorem f12_minus (n : Int) (h0 : n < 0) (h1 : -10 < n) (w : World) :
    Calls Tryz.prog 12 #[.int .i64 n] w fun e w' => e = .returned (.string (dig n)) ∧ w = w' := by
  have E := Lib.hid (dig_minus n h0 h1)
  have hsz : ¬ 9223372036854775807 < (⟨#[45]⟩ : ByteArray).size + (Utf8.encode (48 - n)).size := by
    have e : 48 - n = 48 + (-n) := by omega
    have := enc_size (-n) (by omega) (by omega)
    have : (⟨#[45]⟩ : ByteArray).size = 1 := rfl
    rw [e]; omega
  go_enter Tryz.func12, Tryz.ntmps12
  go_wp2_with fail
  go_returns
  exact ⟨ret_s E.out, rfl⟩
set_option maxRecDepth 100000 in
set_option maxHeartbeats 400000 in
theorem f12_down (n : Int) (h0 : n ≤ -10) (h1 : -9223372036854775808 ≤ n) (w : World) (ih : ∀ w, Calls Tryz.prog 12 #[.int .i64 (n.tdiv 10)] w fun e w' => e = .returned (.string (dig (n.tdiv 10))) ∧ w = w') :
    Calls Tryz.prog 12 #[.int .i64 n] w fun e w' => e = .returned (.string (dig n)) ∧ w = w' := by
  have E := Lib.hid (dig_down n h0)
  have hb : 0 ≤ - n.tmod 10 ∧ - n.tmod 10 < 10 := by
    have := trunc_ten n (by omega)
    omega
  have hsz : ¬ 9223372036854775807 < (dig (n.tdiv 10)).size + (Utf8.encode (48 - n.tmod 10)).size := by
    have e : 48 - n.tmod 10 = 48 + (- n.tmod 10) := by omega
    have ht := trunc_ten n (by omega)
    have := dig_size (n.tdiv 10) (by omega) (by omega)
    have := enc_size (- n.tmod 10) hb.1 hb.2
    rw [e]; omega
  have IH := Lib.hid ih
  clear ih
  go_enter Tryz.func12, Tryz.ntmps12
  go_wp2_with fail
  refine (IH.out _).mono ?_
  rintro e w' ⟨rfl, rfl⟩
  go_wp2_with fail
  go_returns
  exact ⟨ret_s E.out, rfl⟩

/-- cuDigits -/
theorem f12_any (k : Nat) : ∀ (n : Int) (w : World), n.natAbs ≤ k → -9223372036854775808 ≤ n → n ≤ 9223372036854775807 →
    Calls Tryz.prog 12 #[.int .i64 n] w fun e w' => e = .returned (.string (dig n)) ∧ w = w' := by
  induction k with
  | zero => intro n w hk _ _; exact f12_one n (by omega) (by omega) w
  | succ k ih =>
    intro n w hk h0 h1
    by_cases a : 10 ≤ n
    · exact f12_up n a h1 w (fun w => ih _ w (by omega) (by omega) (by omega))
    · by_cases b : 0 ≤ n
      · exact f12_one n b (by omega) w
      · by_cases c : n ≤ -10
        · have ht := trunc_ten n (by omega)
          exact f12_down n c h0 w (fun w => ih _ w (by omega) (by omega) (by omega))
        · exact f12_minus n (by omega) (by omega) w

/-- one digit more -/
theorem parse_snoc (c : UInt8) : ∀ (l : List UInt8) (acc v : Nat), Lib.parseUint10 acc l = .ok v → Lib.parseUint10 acc (l ++ [c]) = Lib.parseUint10 v [c]
  | [], acc, v, h => by
    simp only [Lib.parseUint10] at h
    injection h with h
    rw [List.nil_append, h]
  | a :: r, acc, v, h => by
    rw [List.cons_append]
    unfold Lib.parseUint10 at h ⊢
    split at h
    · rename_i q1
      rw [if_pos q1]
      split at h
      · cases h
      · rename_i q2
        rw [if_neg q2]
        split at h
        · cases h
        · rename_i q3
          rw [if_neg q3]
          exact parse_snoc c r _ v h
    · cases h

theorem digit_toNat (d : Nat) (h : d < 10) : (UInt8.ofNat (48 + d)).toNat = 48 + d := by
  rw [UInt8.toNat_ofNat']; omega

theorem parse_digits (k : Nat) : ∀ u : Nat, u ≤ k → u < 18446744073709551616 → Lib.parseUint10 0 (Lib.decDigits u) = .ok u := by
  induction k with
  | zero =>
    intro u hu _
    obtain rfl : u = 0 := by omega
    rw [decDigits_small (by omega)]
    rfl
  | succ k ih =>
    intro u hu hlt
    have one : ∀ v d : Nat, d < 10 → v * 10 + d < 18446744073709551616 → Lib.parseUint10 v [UInt8.ofNat (48 + d)] = .ok (v * 10 + d) := by
      intro v d hd hv
      unfold Lib.parseUint10
      rw [digit_toNat d hd, if_pos (by omega), if_neg (by omega), if_neg (by omega)]
      unfold Lib.parseUint10
      congr 1; omega
    by_cases h : u < 10
    · rw [decDigits_small h, one 0 u h (by omega)]; congr 1; omega
    · rw [decDigits_big h, parse_snoc _ _ _ _ (ih (u / 10) (by omega) (by omega)), one _ _ (Nat.mod_lt _ (by decide)) (by omega)]
      congr 1; omega

theorem decDigits_head (k : Nat) : ∀ u : Nat, u ≤ k → ∃ d r, d < 10 ∧ Lib.decDigits u = UInt8.ofNat (48 + d) :: r := by
  induction k with
  | zero =>
    intro u hu
    exact ⟨u, [], by omega, decDigits_small (by omega)⟩
  | succ k ih =>
    intro u hu
    by_cases h : u < 10
    · exact ⟨u, [], h, decDigits_small h⟩
    · obtain ⟨d, r, hd, hr⟩ := ih (u / 10) (by omega)
      exact ⟨d, r ++ [UInt8.ofNat (48 + u % 10)], hd, by rw [decDigits_big h, hr, List.cons_append]⟩

/-- the numeral, read -/
theorem atoi_itoa (n : Int) (h0 : -9223372036854775808 ≤ n) (h1 : n ≤ 9223372036854775807) : Lib.atoiAll (Lib.itoa n) = .ok n := by
  by_cases hn : n < 0
  · obtain ⟨u, rfl⟩ : ∃ u : Nat, n = -(u : Int) := ⟨n.natAbs, by omega⟩
    rw [Lib.itoa_neg u (by omega)]
    obtain ⟨d, r, _, hr⟩ := decDigits_head u u (Nat.le_refl _)
    have hp : Lib.parseMag (Lib.decDigits u) = .ok u := by
      unfold Lib.parseMag
      rw [if_neg (by rw [hr]; simp)]
      exact parse_digits u u (Nat.le_refl _) (by omega)
    unfold Lib.atoiAll
    have e : (45 : UInt8).toNat = 45 := rfl
    simp only [e, or_true, if_true, hp]
    rw [if_neg (by simp), if_neg (by omega)]
  · obtain ⟨u, rfl⟩ : ∃ u : Nat, n = (u : Int) := ⟨n.toNat, by omega⟩
    rw [Lib.itoa_nonneg]
    obtain ⟨d, r, hd, hr⟩ := decDigits_head u u (Nat.le_refl _)
    have hp : Lib.parseMag (Lib.decDigits u) = .ok u := by
      unfold Lib.parseMag
      rw [if_neg (by rw [hr]; simp)]
      exact parse_digits u u (Nat.le_refl _) (by omega)
    rw [hr] at hp ⊢
    unfold Lib.atoiAll
    have e := digit_toNat d hd
    have e1 : ¬ (48 + d = 43 ∨ 48 + d = 45) := by omega
    have e2 : ¬ (48 + d = 45) := by omega
    simp only [e, if_neg e1, hp, if_neg e2]
    rw [if_neg (by omega), if_neg (by omega)]
end Go.Proofs.YthmogfjmngbamaaGreatDoor
