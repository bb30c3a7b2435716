/- The plain law of FnRounding: for every word within the law's bounds, the words that the law's reckoning comes to compare as it asks. Conditions: the word fits in 64 bits and lies within the bounds. -/
import Derived.Test.YthmogfjmngbamaaGreatDoorFlo3
namespace Go.Proofs.YthmogfjmngbamaaGreatDoor.Flo
open Ieee

theorem cmp_gt (a b : Int) : (some (compare a b) == some Ordering.gt) = decide (b < a) := by
  simp only [compare, compareOfLessAndEq]
  by_cases h : a < b
  · rw [if_pos h, decide_eq_false (by omega)]; rfl
  · rw [if_neg h]
    by_cases k : a = b
    · rw [if_pos k, decide_eq_false (by omega)]; rfl
    · rw [if_neg k, decide_eq_true (by omega)]; rfl
theorem cmp_lt (a b : Int) : (some (compare a b) == some Ordering.lt) = decide (a < b) := by
  simp only [compare, compareOfLessAndEq]
  by_cases h : a < b
  · rw [if_pos h, decide_eq_true h]; rfl
  · rw [if_neg h, decide_eq_false h]
    by_cases k : a = b
    · rw [if_pos k]; rfl
    · rw [if_neg k]; rfl
theorem cmp_eq (a b : Int) : (some (compare a b) == some Ordering.eq) = decide (a = b) := by
  simp only [compare, compareOfLessAndEq]
  by_cases h : a < b
  · rw [if_pos h, decide_eq_false (by omega)]; rfl
  · rw [if_neg h]
    by_cases k : a = b
    · rw [if_pos k, decide_eq_true k]; rfl
    · rw [if_neg k, decide_eq_false k]; rfl
theorem ord_gt {x y : Nat} {v w : Int} (hx : Val x v) (hy : Val y w) : (FloatKind.f64.format.order x y == some .gt) = decide (w < v) := by
  rw [f64_format, hx.order hy, cmp_gt]
theorem ord_lt {x y : Nat} {v w : Int} (hx : Val x v) (hy : Val y w) : (FloatKind.f64.format.order x y == some .lt) = decide (v < w) := by
  rw [f64_format, hx.order hy, cmp_lt]
theorem ord_eq {x y : Nat} {v w : Int} (hx : Val x v) (hy : Val y w) : (FloatKind.f64.format.order x y == some .eq) = decide (v = w) := by
  rw [f64_format, hx.order hy, cmp_eq]
theorem ord_same {x y : Nat} {v : Int} (hx : Val x v) (hy : Val y v) : (FloatKind.f64.format.order x y != some .eq) = false := by
  unfold bne
  rw [ord_eq hx hy, decide_eq_true rfl]; rfl

theorem val_one : Val 4607182418800017408 (U : Int) := ⟨_, _, reads_one, rfl⟩
theorem val_zero : Val 0 0 := ⟨false, 0, reads_zero false, rfl⟩

theorem mod_repr (m j : Nat) (hm : m < 2 ^ 53) : ∃ M e, m * 2 ^ j % U = M * 2 ^ e ∧ M < 2 ^ 53 := by
  rw [U_pow]
  by_cases h : j ≤ E
  · have e : (2 : Nat) ^ E = 2 ^ j * 2 ^ (E - j) := by rw [← Nat.pow_add]; congr 1; omega
    refine ⟨m % 2 ^ (E - j), j, ?_, Nat.lt_of_le_of_lt (Nat.mod_le _ _) hm⟩
    rw [e, Nat.mul_comm m, Nat.mul_mod_mul_left, Nat.mul_comm]
  · refine ⟨0, 0, ?_, by decide⟩
    have e : m * 2 ^ j = m * 2 ^ (j - E) * 2 ^ E := by rw [Nat.mul_assoc, ← Nat.pow_add, Nat.sub_add_cancel (by omega)]
    rw [e, Nat.mul_mod_left, Nat.zero_mul]

/-- the greater of a word and that word with its sign turned, as the builtin max has it -/
def maxW (x : Nat) : Nat :=
  match double.order x (Op.negFloat .f64 x) with
  | some .lt => Op.negFloat .f64 x
  | some .gt => x
  | _ => if (double.read x).neg then Op.negFloat .f64 x else x

theorem run_max_word {P : Program} (x : Nat) (o : Ordering) (ho : double.order x (Op.negFloat .f64 x) = some o) (ts : Array TypeId) (t : TypeId) (w : World) :
    (Builtin.max_ ts t #[.float .f64 x, .float .f64 (Op.negFloat .f64 x)]).run P w = .ok (.float .f64 (maxW x)) w := by
  have h : FloatKind.f64.format.order x (Op.negFloat .f64 x) = some o := ho
  unfold maxW
  rw [ho]
  cases o <;> (simp only [Builtin.max_, List.foldlM_cons, List.foldlM_nil, Builtin.max2, h]; rfl)

/-- what the law's reckoning comes to -/
structure Facts (x : Nat) (n : Int) (lo hi ne d1 d2 : Nat) (b1 b2 b3 b4 b5 : Bool) : Prop where
  int : floatToIntVal .f64 x .i64 = some n
  g1 : (FloatKind.f64.format.order (floatOfInt .f64 n) x == some .gt) = b1
  hlo : b1 = false → lo = floatOfInt .f64 n
  hs1 : b1 = true → floatBits .sub .f64 (floatOfInt .f64 n) 4607182418800017408 = some lo
  g2 : (FloatKind.f64.format.order lo x == some .lt) = b2
  hhi : b2 = false → hi = lo
  hs2 : b2 = true → floatBits .add .f64 lo 4607182418800017408 = some hi
  hd1 : floatBits .sub .f64 x lo = some d1
  hd2 : floatBits .sub .f64 hi x = some d2
  g3 : (FloatKind.f64.format.order d1 d2 == some .gt) = b3
  g4 : (FloatKind.f64.format.order d1 d2 == some .eq) = b4
  g5 : (FloatKind.f64.format.order x 0 == some .gt) = b5
  hne : ne = if b3 || (b4 && b5) then hi else lo
  q1 : (FloatKind.f64.format.order (flo x) lo != some .eq) = false
  q2 : (FloatKind.f64.format.order (cei x) hi != some .eq) = false
  q3 : (FloatKind.f64.format.order (rou x) ne != some .eq) = false
  q4 : (FloatKind.f64.format.order (amo x) (maxW x) != some .eq) = false

theorem amount {x : Nat} {s : Bool} {r V : Nat} (hx : x = double.word s r) (hr : r < 9218868437227405312)
    (hV : V = if r < 4503599627370496 then r else (4503599627370496 + r % 4503599627370496) * 2 ^ (r / 4503599627370496 - 1)) :
    Val (Op.negFloat .f64 x) (- sg s V) ∧ Val (amo x) (V : Int) ∧ Val (maxW x) (V : Int) := by
  have R : Reads x s V := by rw [hx, hV]; exact reads_of_rung s r hr
  have hn : Op.negFloat .f64 x = double.word (!s) r := by rw [hx]; exact neg_word s r (by omega)
  have Rn : Reads (Op.negFloat .f64 x) (!s) V := by rw [hn, hV]; exact reads_of_rung (!s) r hr
  have vx : Val x (sg s V) := ⟨_, _, R, rfl⟩
  have vn : Val (Op.negFloat .f64 x) (- sg s V) := ⟨_, _, Rn, (sg_not s V).symm⟩
  refine ⟨vn, ?_, ?_⟩
  · unfold amo
    have h0 : (FloatKind.f64.format.order x 0 == some .lt) = decide (sg s V < 0) := ord_lt vx val_zero
    by_cases h : sg s V < 0
    · rw [decide_eq_true h, beq_iff_eq] at h0
      rw [if_pos h0]
      have e : - sg s V = (V : Int) := by unfold sg at h ⊢; cases s <;> simp at h ⊢ <;> omega
      rw [← e]; exact vn
    · rw [decide_eq_false h, beq_eq_false_iff_ne] at h0
      rw [if_neg h0]
      have e : sg s V = (V : Int) := by unfold sg at h ⊢; cases s <;> simp at h ⊢ <;> omega
      rw [← e]; exact vx
  · unfold maxW
    rw [vx.order vn]
    by_cases h : sg s V < - sg s V
    · have c : compare (sg s V) (- sg s V) = .lt := by
        simp only [compare, compareOfLessAndEq]; rw [if_pos h]
      rw [c]
      have e : - sg s V = (V : Int) := by unfold sg at h ⊢; cases s <;> simp at h ⊢ <;> omega
      show Val (Op.negFloat .f64 x) _
      rw [← e]; exact vn
    · by_cases k : sg s V = - sg s V
      · have c : compare (sg s V) (- sg s V) = .eq := by
          simp only [compare, compareOfLessAndEq]; rw [if_neg h, if_pos k]
        rw [c]
        have hV0 : V = 0 := by unfold sg at k; cases s <;> simp at k <;> omega
        show Val (if (double.read x).neg then Op.negFloat .f64 x else x) _
        have e1 : - sg s V = (V : Int) := by rw [hV0, sg_zero]; rfl
        have e2 : sg s V = (V : Int) := by rw [hV0, sg_zero]; rfl
        split
        · rw [← e1]; exact vn
        · rw [← e2]; exact vx
      · have c : compare (sg s V) (- sg s V) = .gt := by
          simp only [compare, compareOfLessAndEq]; rw [if_neg h, if_neg k]
        rw [c]
        have e : sg s V = (V : Int) := by unfold sg at h ⊢; cases s <;> simp at h ⊢ <;> omega
        show Val x _
        rw [← e]; exact vx

theorem whole_small (q : Nat) (hq : q ≤ 2 ^ 50) : q + 1 < 2 ^ 53 := by
  have h50 : (2 : Nat) ^ 50 = 1125899906842624 := by decide
  have h53 : (2 : Nat) ^ 53 = 9007199254740992 := by decide
  omega

theorem whole_of {q ρ : Nat} (hρ : ρ < U) : (q * U + ρ) / U = q ∧ (q * U + ρ) % U = ρ := by
  have hU := U_pos
  constructor
  · rw [Nat.add_comm, Nat.add_mul_div_right _ _ hU, Nat.div_eq_of_lt hρ, Nat.zero_add]
  · rw [Nat.add_comm, Nat.add_mul_mod_self_right, Nat.mod_eq_of_lt hρ]

theorem facts (x : Nat) (hx : x < 18446744073709551616)
    (h1 : (FloatKind.f64.format.order x 4832362400168542208 == some .lt || FloatKind.f64.format.order x 4832362400168542208 == some .eq) = true)
    (h2 : (FloatKind.f64.format.order x 14055734437023318016 == some .gt || FloatKind.f64.format.order x 14055734437023318016 == some .eq) = true) :
    (∃ s m i, FloatKind.f64.decode x = .number s m i) ∧ (∃ o, double.order x (Op.negFloat .f64 x) = some o) ∧
    ∃ n lo hi ne d1 d2 b1 b2 b3 b4 b5, Facts x n lo hi ne d1 d2 b1 b2 b3 b4 b5 := by
  obtain ⟨s, r, hxw, hr, hVle⟩ := bounded x hx h1 h2
  obtain ⟨V, hV⟩ : ∃ V, V = (if r < 4503599627370496 then r else (4503599627370496 + r % 4503599627370496) * 2 ^ (r / 4503599627370496 - 1)) := ⟨_, rfl⟩
  rw [← hV] at hVle
  have R : Reads x s V := by rw [hxw, hV]; exact reads_of_rung s r hr
  have hrep : ∃ M e, V % U = M * 2 ^ e ∧ M < 2 ^ 53 := by
    rw [hV]
    have h53 : (2 : Nat) ^ 53 = 9007199254740992 := by decide
    by_cases hb : r < 4503599627370496
    · rw [if_pos hb]
      have := mod_repr r 0 (by omega)
      rwa [Nat.pow_zero, Nat.mul_one] at this
    · rw [if_neg hb]
      exact mod_repr _ _ (by omega)
  have vx : Val x (sg s V) := ⟨_, _, R, rfl⟩
  obtain ⟨vneg, vamo, vmax⟩ := amount hxw hr hV
  have hrou := round_word s r hr V hV hVle
  rw [← hxw] at hrou
  have hUp := U_pos
  have hUH := U_H
  obtain ⟨q, hq⟩ : ∃ q, q = V / U := ⟨_, rfl⟩
  obtain ⟨ρ, hρ⟩ : ∃ ρ, ρ = V % U := ⟨_, rfl⟩
  have hVq : V = q * U + ρ := by rw [hq, hρ, Nat.mul_comm]; exact (Nat.div_add_mod V U).symm
  have hρU : ρ < U := by rw [hρ]; exact Nat.mod_lt _ hUp
  have hq50 : q ≤ 2 ^ 50 := by
    rw [hq]; exact (Nat.div_le_iff_le_mul_add_pred hUp).2 (by rw [Nat.mul_comm]; omega)
  have hqs := whole_small q hq50
  have hfl := R.floor (by rw [← hq]; exact hqs)
  have hce := R.ceil (by rw [← hq]; exact hqs)
  have hwh := R.whole
  rw [← hq, ← hρ] at hfl hce hrou
  rw [← hq] at hwh
  rw [← hρ] at hrep
  have hint : floatToIntVal .f64 x .i64 = some (sg s q) := by
    unfold floatToIntVal
    have e : (FloatKind.f64.decode x).toInt .zero = some (sg s q) := hwh
    rw [e]
    have h53 : (2 : Nat) ^ 53 = 9007199254740992 := by decide
    have hb : IntKind.i64.min ≤ sg s q ∧ sg s q ≤ IntKind.i64.max := by
      have e1 : IntKind.i64.min = -9223372036854775808 := by decide
      have e2 : IntKind.i64.max = 9223372036854775807 := by decide
      rw [e1, e2]
      unfold sg; cases s <;> simp <;> omega
    simp only [hb, and_self, if_true]
  obtain ⟨M, e, hM, hM53⟩ := hrep
  have hL : ∀ k : Nat, k < 2 ^ 53 → k * U < 2 ^ L := U_lt
  have hL1 : U < 2 ^ L := by have := U_lt 1 (by decide); omega
  have vn : Val (floatOfInt .f64 (sg s q)) (sg s q * U) := floatOfInt_val _ (by rw [sg_natAbs]; omega)
  refine ⟨?_, ⟨_, vx.order vneg⟩, ?_⟩
  · obtain ⟨m, i, hm, _⟩ := R
    exact ⟨s, m, _, hm⟩
  -- the tie of the rounded one to the half
  by_cases h0 : ρ = 0
  · -- a whole number
    subst h0
    have hv : sg s V = sg s q * U := by rw [hVq, Nat.add_zero, sg_mul]
    rw [hv] at vx
    have hz1 : ((s && (0 : Nat) != 0) : Bool) = false := by simp
    have hz2 : ((!s && (0 : Nat) != 0) : Bool) = false := by simp
    rw [hz1] at hfl
    rw [hz2] at hce
    have hH : decide (H ≤ 0) = false := decide_eq_false (by omega)
    rw [hH] at hrou
    simp only [Bool.toNat_false, Nat.add_zero] at hfl hce hrou
    have vfl : Val (flo x) (sg s q * U) := ⟨_, _, hfl, (sg_mul _ _ _).symm⟩
    have vce : Val (cei x) (sg s q * U) := ⟨_, _, hce, (sg_mul _ _ _).symm⟩
    have vro : Val (rou x) (sg s q * U) := ⟨_, _, hrou, (sg_mul _ _ _).symm⟩
    have hL0 : (sg s q * U - sg s q * U).natAbs < 2 ^ L := by
      rw [Int.sub_self]; exact Nat.two_pow_pos _
    obtain ⟨d1, hd1, vd1⟩ := vx.sub vn 0 0 (by rw [Int.sub_self]; rfl) (by decide) hL0
    obtain ⟨d2, hd2, vd2⟩ := vn.sub vx 0 0 (by rw [Int.sub_self]; rfl) (by decide) hL0
    rw [Int.sub_self] at vd1 vd2
    refine ⟨_, floatOfInt .f64 (sg s q), floatOfInt .f64 (sg s q), floatOfInt .f64 (sg s q), d1, d2, _, _, _, _, _, hint, rfl, fun _ => rfl, ?_, rfl, fun _ => rfl, ?_, hd1, hd2, rfl, rfl, rfl, ?_, ord_same vfl vn, ord_same vce vn, ord_same vro vn, ord_same vamo vmax⟩
    · intro h; rw [ord_gt vn vx] at h; exact absurd h (by simp)
    · intro h; rw [ord_lt vn vx] at h; exact absurd h (by simp)
    · split <;> rfl
  · have hnz : ((ρ != 0) : Bool) = true := by rw [bne_iff_ne]; exact h0
    rw [hnz] at hfl hce
    have hρL : ρ < 2 ^ L := by omega
    cases s
    · -- above 0
      simp only [Bool.false_and, Bool.not_false, Bool.true_and, Bool.toNat_false, Bool.toNat_true, Nat.add_zero] at hfl hce
      have e0 : ∀ k : Nat, sg false k = (k : Int) := fun _ => rfl
      have hv : sg false V = (q : Int) * U + ρ := by rw [e0, hVq]; push_cast; rfl
      rw [hv] at vx
      rw [e0] at vn hint
      have vlo : Val (floatOfInt .f64 (q : Int)) ((q : Int) * U) := vn
      have vfl : Val (flo x) ((q : Int) * U) := ⟨_, _, hfl, by rw [e0]; push_cast; rfl⟩
      have vce : Val (cei x) ((q : Int) * U + U) := ⟨_, _, hce, by rw [e0]; push_cast; rw [Int.add_mul]; omega⟩
      have e1 : (q : Int) * U + U = (((q + 1) * U : Nat) : Int) := by push_cast; rw [Int.add_mul]; omega
      obtain ⟨hi, hhi, vhi⟩ := vlo.add val_one (q + 1) E (by rw [e1, Int.natAbs_natCast, U_pow]) hqs (by rw [e1, Int.natAbs_natCast]; exact hL _ hqs)
      have e2 : (q : Int) * U + ρ - (q : Int) * U = (ρ : Int) := by omega
      obtain ⟨d1, hd1, vd1⟩ := vx.sub vlo M e (by rw [e2, Int.natAbs_natCast]; exact hM) hM53 (by rw [e2, Int.natAbs_natCast]; exact hρL)
      rw [e2] at vd1
      obtain ⟨d2, R2, hd2, vd2, k1, k2⟩ := vhi.sub_half vx (U - ρ) (by omega) (by omega)
      have o1 : (FloatKind.f64.format.order (floatOfInt .f64 (q : Int)) x == some .gt) = false := by
        rw [ord_gt vlo vx]; exact decide_eq_false (by omega)
      have o2 : (FloatKind.f64.format.order (floatOfInt .f64 (q : Int)) x == some .lt) = true := by
        rw [ord_lt vlo vx]; exact decide_eq_true (by omega)
      have o3 : (FloatKind.f64.format.order d1 d2 == some .gt) = decide (H < ρ) := by
        rw [ord_gt vd1 vd2]; exact decide_eq_decide.2 (by omega)
      have o4 : (FloatKind.f64.format.order d1 d2 == some .eq) = decide (ρ = H) := by
        rw [ord_eq vd1 vd2]; exact decide_eq_decide.2 (by omega)
      have o5 : (FloatKind.f64.format.order x 0 == some .gt) = true := by
        rw [ord_gt vx val_zero]
        have : (0 : Int) ≤ (q : Int) * U := Int.mul_nonneg (by omega) (by omega)
        exact decide_eq_true (by omega)
      refine ⟨_, floatOfInt .f64 (q : Int), hi, _, d1, d2, _, _, _, _, _, hint, o1, fun _ => rfl, (fun h => by cases h), o2, (fun h => by cases h), fun _ => hhi, hd1, hd2, o3, o4, o5, rfl, ord_same vfl vlo, ord_same vce vhi, ?_, ord_same vamo vmax⟩
      by_cases hh : H ≤ ρ
      · have hb : (decide (H < ρ) || (decide (ρ = H) && true)) = true := by
          rw [Bool.and_true, Bool.or_eq_true, decide_eq_true_eq, decide_eq_true_eq]; omega
        rw [hb, if_pos rfl]
        rw [decide_eq_true hh] at hrou
        exact ord_same ⟨_, _, hrou, by rw [e0, Bool.toNat_true]; exact e1⟩ vhi
      · have hb : (decide (H < ρ) || (decide (ρ = H) && true)) = false := by
          rw [Bool.and_true, Bool.or_eq_false_iff, decide_eq_false_iff_not, decide_eq_false_iff_not]; omega
        rw [hb, if_neg (by simp)]
        rw [decide_eq_false hh] at hrou
        exact ord_same ⟨_, _, hrou, by rw [e0, Bool.toNat_false]; push_cast; rfl⟩ vlo
    · -- below 0
      simp only [Bool.true_and, Bool.not_true, Bool.false_and, Bool.toNat_false, Bool.toNat_true, Nat.add_zero] at hfl hce
      have e0 : ∀ k : Nat, sg true k = -(k : Int) := fun _ => rfl
      have hv : sg true V = -((q : Int) * U) - ρ := by rw [e0, hVq]; push_cast; omega
      rw [hv] at vx
      rw [e0, Int.neg_mul] at vn
      rw [e0] at hint
      have e1 : -((q : Int) * U) - U = -(((q + 1) * U : Nat) : Int) := by push_cast; rw [Int.add_mul]; omega
      have vfl : Val (flo x) (-((q : Int) * U) - U) := ⟨_, _, hfl, by rw [e0]; exact e1⟩
      have vce : Val (cei x) (-((q : Int) * U)) := ⟨_, _, hce, by rw [e0]; push_cast; rfl⟩
      obtain ⟨lo, hlo, vlo⟩ := vn.sub val_one (q + 1) E (by rw [e1, Int.natAbs_neg, Int.natAbs_natCast, U_pow]) hqs (by rw [e1, Int.natAbs_neg, Int.natAbs_natCast]; exact hL _ hqs)
      have e3 : -((q : Int) * U) - U + U = -((q * U : Nat) : Int) := by push_cast; omega
      obtain ⟨hi, hhi, vhi⟩ := vlo.add val_one q E (by rw [e3, Int.natAbs_neg, Int.natAbs_natCast, U_pow]) (by omega) (by rw [e3, Int.natAbs_neg, Int.natAbs_natCast]; exact hL _ (by omega))
      have e4 : -((q : Int) * U) - U + U = -((q : Int) * U) := by omega
      rw [e4] at vhi
      obtain ⟨d1, R1, hd1, vd1, k1, k2⟩ := vx.sub_half vlo (U - ρ) (by omega) (by omega)
      have e2 : -((q : Int) * U) - (-((q : Int) * U) - ρ) = (ρ : Int) := by omega
      obtain ⟨d2, hd2, vd2⟩ := vhi.sub vx M e (by rw [e2, Int.natAbs_natCast]; exact hM) hM53 (by rw [e2, Int.natAbs_natCast]; exact hρL)
      rw [e2] at vd2
      have o1 : (FloatKind.f64.format.order (floatOfInt .f64 (-(q : Int))) x == some .gt) = true := by
        rw [ord_gt vn vx]; exact decide_eq_true (by omega)
      have o2 : (FloatKind.f64.format.order lo x == some .lt) = true := by
        rw [ord_lt vlo vx]; exact decide_eq_true (by omega)
      have o3 : (FloatKind.f64.format.order d1 d2 == some .gt) = decide (ρ < H) := by
        rw [ord_gt vd1 vd2]; exact decide_eq_decide.2 (by omega)
      have o4 : (FloatKind.f64.format.order d1 d2 == some .eq) = decide (ρ = H) := by
        rw [ord_eq vd1 vd2]; exact decide_eq_decide.2 (by omega)
      have o5 : (FloatKind.f64.format.order x 0 == some .gt) = false := by
        rw [ord_gt vx val_zero]
        have : (0 : Int) ≤ (q : Int) * U := Int.mul_nonneg (by omega) (by omega)
        exact decide_eq_false (by omega)
      refine ⟨_, lo, hi, _, d1, d2, _, _, _, _, _, hint, o1, (fun h => by cases h), fun _ => hlo, o2, (fun h => by cases h), fun _ => hhi, hd1, hd2, o3, o4, o5, rfl, ord_same vfl vlo, ord_same vce vhi, ?_, ord_same vamo vmax⟩
      by_cases hh : H ≤ ρ
      · have hb : (decide (ρ < H) || (decide (ρ = H) && false)) = false := by
          rw [Bool.and_false, Bool.or_false, decide_eq_false_iff_not]; omega
        rw [hb, if_neg (by simp)]
        rw [decide_eq_true hh] at hrou
        exact ord_same ⟨_, _, hrou, by rw [e0, Bool.toNat_true]; exact e1⟩ vlo
      · have hb : (decide (ρ < H) || (decide (ρ = H) && false)) = true := by
          rw [Bool.and_false, Bool.or_false, decide_eq_true_eq]; omega
        rw [hb, if_pos rfl]
        rw [decide_eq_false hh] at hrou
        exact ord_same ⟨_, _, hrou, by rw [e0, Bool.toNat_false]; push_cast; rfl⟩ vhi

end Go.Proofs.YthmogfjmngbamaaGreatDoor.Flo
