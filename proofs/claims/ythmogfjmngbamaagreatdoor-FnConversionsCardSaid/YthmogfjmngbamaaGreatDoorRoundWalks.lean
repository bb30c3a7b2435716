/- math.Floor, math.Ceil, math.Round and the builtins over them, for a float that is no NaN. Conditions: the word decodes as a number, and fits in 64 bits. -/
import Derived.Test.YthmogfjmngbamaaGreatDoorBase
namespace Go.Proofs.YthmogfjmngbamaaGreatDoor
open Go.RowKit
attribute [local go_sem] run_store_float ta22_43 ta22_22

/-- the word of the greatest whole number that is no more -/
def flo (x : Nat) : Nat := FloatKind.f64.encode ((FloatKind.f64.decode x).integral .down)
/-- the word of the least whole number that is no less -/
def cei (x : Nat) : Nat := FloatKind.f64.encode ((FloatKind.f64.decode x).integral .up)
/-- the exponent's field -/
def expo (x : Nat) : Int := bits .and .u64 ((x : Int) / 4503599627370496) 2047
/-- what math.Round reckons on the bits -/
def rou (x : Nat) : Nat :=
  if expo x < 1023 then
    if expo x = 1022 then (bits .or .u64 (bits .and .u64 (x : Int) 9223372036854775808) 4607182418800017408).toNat
    else (bits .and .u64 (x : Int) 9223372036854775808).toNat
  else if expo x < 1075 then
    (bits .andNot .u64 (IntKind.u64.wrap ((x : Int) + 2251799813685248 / 2 ^ (expo x - 1023).toNat)) (4503599627370495 / 2 ^ (expo x - 1023).toNat)).toNat
  else x

theorem ext54 (x : Nat) (w : World) : (callFunc 54 #[.float .f64 x]).run Tryz.prog w = .ok (.value (.int .u64 x)) w :=
  run_callFunc_extern (e := Go.Extern.MathFloatBits.float64bits) Tryz.func54 (by kernel_rfl) (by kernel_rfl) (by kernel_rfl) (by kernel_rfl) _ w
theorem ext55 (n : Int) (w : World) : (callFunc 55 #[.int .u64 n]).run Tryz.prog w = .ok (.value (.float .f64 n.toNat)) w :=
  run_callFunc_extern (e := Go.Extern.MathFloatBits.float64frombits) Tryz.func55 (by kernel_rfl) (by kernel_rfl) (by kernel_rfl) (by kernel_rfl) _ w
theorem toIntegral_number (name : String) (way : Ieee.Toward) (x : Nat) (s : Bool) (m : Nat) (i : Int) (hx : FloatKind.f64.decode x = .number s m i) :
    Go.Extern.MathFloor.toIntegral name way #[.float .f64 x] = pure (.float .f64 (FloatKind.f64.encode ((FloatKind.f64.decode x).integral way))) := by
  conv => lhs; whnf
  rw [hx]
theorem ext50 (x : Nat) (s : Bool) (m : Nat) (i : Int) (hx : FloatKind.f64.decode x = .number s m i) (w : World) :
    (callFunc 50 #[.float .f64 x]).run Tryz.prog w = .ok (.value (.float .f64 (flo x))) w := by
  rw [run_callFunc_extern (e := Go.Extern.MathFloor.toIntegral "math.archFloor" .down) Tryz.func50 (by kernel_rfl) (by kernel_rfl) (by kernel_rfl) (by kernel_rfl) _ w, toIntegral_number _ _ x s m i hx]
  rfl
theorem ext52 (x : Nat) (s : Bool) (m : Nat) (i : Int) (hx : FloatKind.f64.decode x = .number s m i) (w : World) :
    (callFunc 52 #[.float .f64 x]).run Tryz.prog w = .ok (.value (.float .f64 (cei x))) w := by
  rw [run_callFunc_extern (e := Go.Extern.MathFloor.toIntegral "math.archCeil" .up) Tryz.func52 (by kernel_rfl) (by kernel_rfl) (by kernel_rfl) (by kernel_rfl) _ w, toIntegral_number _ _ x s m i hx]
  rfl

set_option maxRecDepth 100000 in
set_option maxHeartbeats 400000 in
theorem f32_any (x : Nat) (s : Bool) (m : Nat) (i : Int) (hx : FloatKind.f64.decode x = .number s m i) (w : World) :
    Calls Tryz.prog 32 #[.float .f64 x] w fun e w' => e = .returned (.float .f64 (flo x)) ∧ w = w' := by
  have hf := ext50 x s m i hx
  clear hx
  go_enter Tryz.func32, Tryz.ntmps32
  go_wp2
  go_returns
  exact ⟨rfl, rfl⟩

set_option maxRecDepth 100000 in
set_option maxHeartbeats 400000 in
theorem f33_any (x : Nat) (s : Bool) (m : Nat) (i : Int) (hx : FloatKind.f64.decode x = .number s m i) (w : World) :
    Calls Tryz.prog 33 #[.float .f64 x] w fun e w' => e = .returned (.float .f64 (cei x)) ∧ w = w' := by
  have hf := ext52 x s m i hx
  clear hx
  go_enter Tryz.func33, Tryz.ntmps33
  go_wp2
  go_returns
  exact ⟨rfl, rfl⟩

theorem ret_f {a b : Nat} (h : a = b) : Ending.returned (.float .f64 a) = .returned (.float .f64 b) := by rw [h]

set_option maxRecDepth 100000 in
set_option maxHeartbeats 400000 in
theorem f34_any (x : Nat) (_hx : x < 18446744073709551616) (w : World) :
    Calls Tryz.prog 34 #[.float .f64 x] w fun e w' => e = .returned (.float .f64 (rou x)) ∧ w = w' := by
  have h54 := ext54
  have h55 := ext55
  by_cases ha : expo x < 1023
  · by_cases hb : expo x = 1022
    · have hr : rou x = (bits .or .u64 (bits .and .u64 (x : Int) 9223372036854775808) 4607182418800017408).toNat := by
        unfold rou; rw [if_pos ha, if_pos hb]
      rw [hr]
      clear hr
      have hb' : (expo x == 1022) = true := beq_iff_eq.2 hb
      clear hb
      unfold expo at ha hb'
      go_enter Tryz.func34, Tryz.ntmps34
      go_wp2
      go_returns
      exact ⟨rfl, rfl⟩
    · have hr : rou x = (bits .and .u64 (x : Int) 9223372036854775808).toNat := by
        unfold rou; rw [if_pos ha, if_neg hb]
      rw [hr]
      clear hr
      have hb' : (expo x == 1022) = false := beq_eq_false_iff_ne.2 hb
      clear hb
      unfold expo at ha hb'
      go_enter Tryz.func34, Tryz.ntmps34
      go_wp2
      go_returns
      exact ⟨rfl, rfl⟩
  · by_cases hb : expo x < 1075
    · have hr : rou x = (bits .andNot .u64 (IntKind.u64.wrap ((x : Int) + 2251799813685248 / 2 ^ (expo x - 1023).toNat)) (4503599627370495 / 2 ^ (expo x - 1023).toNat)).toNat := by
        unfold rou; rw [if_neg ha, if_pos hb]
      rw [hr]
      clear hr
      unfold expo at ha hb ⊢
      go_enter Tryz.func34, Tryz.ntmps34
      go_wp2
      go_returns
      exact ⟨rfl, rfl⟩
    · have hr : rou x = x := by
        unfold rou; rw [if_neg ha, if_neg hb]
      rw [hr]
      clear hr
      unfold expo at ha hb
      go_enter Tryz.func34, Tryz.ntmps34
      go_wp2
      go_returns
      exact ⟨ret_f (by simp), rfl⟩

set_option maxRecDepth 100000 in
set_option maxHeartbeats 400000 in
theorem b16_float (x : Nat) (s : Bool) (m : Nat) (i : Int) (hx : FloatKind.f64.decode x = .number s m i) (w : World) :
    Calls Tryz.prog 16 #[.iface 22 (.float .f64 x)] w fun e w' => e = .returned (.iface 22 (.float .f64 (flo x))) ∧ Below w.heap.size w w' := by
  have h := f32_any x s m i hx
  clear hx
  have H := Lib.hid h
  clear h
  go_enter Tryz.func16, Tryz.ntmps16
  go_wp2_with fail
  refine (H.out _).mono ?_
  rintro e w' ⟨rfl, rfl⟩
  go_wp2
  go_returns
  exact ⟨rfl, Below.refl _ _⟩

set_option maxRecDepth 100000 in
set_option maxHeartbeats 400000 in
theorem b18_float (x : Nat) (s : Bool) (m : Nat) (i : Int) (hx : FloatKind.f64.decode x = .number s m i) (w : World) :
    Calls Tryz.prog 18 #[.iface 22 (.float .f64 x)] w fun e w' => e = .returned (.iface 22 (.float .f64 (cei x))) ∧ Below w.heap.size w w' := by
  have h := f33_any x s m i hx
  clear hx
  have H := Lib.hid h
  clear h
  go_enter Tryz.func18, Tryz.ntmps18
  go_wp2_with fail
  refine (H.out _).mono ?_
  rintro e w' ⟨rfl, rfl⟩
  go_wp2
  go_returns
  exact ⟨rfl, Below.refl _ _⟩

set_option maxRecDepth 100000 in
set_option maxHeartbeats 400000 in
theorem b20_float (x : Nat) (hx : x < 18446744073709551616) (w : World) :
    Calls Tryz.prog 20 #[.iface 22 (.float .f64 x)] w fun e w' => e = .returned (.iface 22 (.float .f64 (rou x))) ∧ Below w.heap.size w w' := by
  have h := f34_any x hx
  clear hx
  have H := Lib.hid h
  clear h
  go_enter Tryz.func20, Tryz.ntmps20
  go_wp2_with fail
  refine (H.out _).mono ?_
  rintro e w' ⟨rfl, rfl⟩
  go_wp2
  go_returns
  exact ⟨rfl, Below.refl _ _⟩

/-- the amount: the sign turned where the word stands for less than 0 -/
def amo (x : Nat) : Nat := if FloatKind.f64.format.order x 0 = some .lt then Op.negFloat .f64 x else x
theorem run_neg_float (x : Nat) (w : World) : (Op.unary .neg (.float .f64 x)).run Tryz.prog w = .ok (.float .f64 (Op.negFloat .f64 x)) w := rfl

set_option maxRecDepth 100000 in
set_option maxHeartbeats 400000 in
theorem b22_float (x : Nat) (w : World) :
    Calls Tryz.prog 22 #[.iface 22 (.float .f64 x)] w fun e w' => e = .returned (.iface 22 (.float .f64 (amo x))) ∧ Below w.heap.size w w' := by
  have hn := run_neg_float x
  by_cases h : FloatKind.f64.format.order x 0 = some .lt
  · have ha : amo x = Op.negFloat .f64 x := by unfold amo; rw [if_pos h]
    rw [ha]
    clear ha
    have h' : (FloatKind.f64.format.order x 0 == some .lt) = true := by rw [h]; rfl
    clear h
    go_enter Tryz.func22, Tryz.ntmps22
    go_wp2
    go_returns
    exact ⟨rfl, Below.refl _ _⟩
  · have ha : amo x = x := by unfold amo; rw [if_neg h]
    rw [ha]
    clear ha
    have h' : (FloatKind.f64.format.order x 0 == some .lt) = false := by
      rw [beq_eq_false_iff_ne]; exact h
    clear h
    go_enter Tryz.func22, Tryz.ntmps22
    go_wp2
    go_returns
    exact ⟨rfl, Below.refl _ _⟩
end Go.Proofs.YthmogfjmngbamaaGreatDoor
