/- The walk of laws.FnRounding: that it returns true where the words that its own reckoning comes to compare as the law asks; and that it returns true at once outside its bounds. Conditions: the facts on words, named in the theorem's premises. -/
import Derived.Test.YthmogfjmngbamaaGreatDoorBase
import Derived.Test.YthmogfjmngbamaaGreatDoorRoundDoors
import Derived.Test.YthmogfjmngbamaaGreatDoorRoundWalks
import Derived.Test.YthmogfjmngbamaaGreatDoorVals
import Derived.Deep.DeepCutAuto
import Derived.BigQuiet
import Derived.Deep.QuietTactic
import Derived.BigRegion
namespace Go.Proofs.YthmogfjmngbamaaGreatDoor
open Go.RowKit
attribute [local go_sem] run_store_float
def VF (x : Nat) : Array Value := #[.int .i64 12, .int .i64 0, .int .u64 0, .float .f64 x, .string ⟨#[]⟩, .bool false, .slice none 0 0, .slice none 0 0]

set_option maxRecDepth 100000 in
set_option maxHeartbeats 1000000 in
theorem law_a (x : Nat) (s : Bool) (m : Nat) (i : Int) (hx : FloatKind.f64.decode x = .number s m i) (hx64 : x < 18446744073709551616)
    (h1 : (FloatKind.f64.format.order x 4832362400168542208 == some .lt || FloatKind.f64.format.order x 4832362400168542208 == some .eq) = true)
    (h2 : (FloatKind.f64.format.order x 14055734437023318016 == some .gt || FloatKind.f64.format.order x 14055734437023318016 == some .eq) = true)
    (n : Int) (lo hi ne d1 d2 mx : Nat) (b1 b2 b3 b4 b5 : Bool)
    (hci : ∀ w, (convert 22 3 (.float .f64 x)).run Tryz.prog w = .ok (.int .i64 n) w)
    (g1 : (FloatKind.f64.format.order (floatOfInt .f64 n) x == some .gt) = b1)
    (hlo : b1 = false → lo = floatOfInt .f64 n)
    (hs1 : b1 = true → floatBits .sub .f64 (floatOfInt .f64 n) 4607182418800017408 = some lo)
    (g2 : (FloatKind.f64.format.order lo x == some .lt) = b2)
    (hhi : b2 = false → hi = lo)
    (hs2 : b2 = true → floatBits .add .f64 lo 4607182418800017408 = some hi)
    (hd1 : floatBits .sub .f64 x lo = some d1) (hd2 : floatBits .sub .f64 hi x = some d2)
    (g3 : (FloatKind.f64.format.order d1 d2 == some .gt) = b3)
    (g4 : (FloatKind.f64.format.order d1 d2 == some .eq) = b4)
    (g5 : (FloatKind.f64.format.order x 0 == some .gt) = b5)
    (hne : ne = if b3 || (b4 && b5) then hi else lo)
    (hmax : ∀ (ts : Array TypeId) (t : TypeId) w, (Builtin.max_ ts t #[.float .f64 x, .float .f64 (Op.negFloat .f64 x)]).run Tryz.prog w = .ok (.float .f64 mx) w)
    (q1 : (FloatKind.f64.format.order (flo x) lo != some .eq) = false)
    (q2 : (FloatKind.f64.format.order (cei x) hi != some .eq) = false)
    (q3 : (FloatKind.f64.format.order (rou x) ne != some .eq) = false)
    (q4 : (FloatKind.f64.format.order (amo x) mx != some .eq) = false)
    (w : World) :
    Calls Tryz.prog 3 #[.float .f64 x] w fun e w' => e = .returned (.bool true) ∧ Below w.heap.size w w' := by
  have d5 := fun w => door5_float 0 0 x ⟨#[]⟩ (by decide) false (.slice none 0 0) (.slice none 0 0) (flo x) w (fun w1 _ => b16_float x s m i hx w1)
  have d6 := fun w => door6_float 0 0 x ⟨#[]⟩ (by decide) false (.slice none 0 0) (.slice none 0 0) (cei x) w (fun w1 _ => b18_float x s m i hx w1)
  have d7 := fun w => door7_float 0 0 x ⟨#[]⟩ (by decide) false (.slice none 0 0) (.slice none 0 0) (rou x) w (fun w1 _ => b20_float x hx64 w1)
  have d8 := fun w => door8_float 0 0 x ⟨#[]⟩ (by decide) false (.slice none 0 0) (.slice none 0 0) (amo x) w (fun w1 _ => b22_float x w1)
  have D5 := Lib.hid d5
  have D6 := Lib.hid d6
  have D7 := Lib.hid d7
  have D8 := Lib.hid d8
  clear d5 d6 d7 d8 hx hx64
  have G1 := Lib.hid g1
  have HLO := Lib.hid hlo
  have HS1 := Lib.hid hs1
  have G2 := Lib.hid g2
  have HHI := Lib.hid hhi
  have HS2 := Lib.hid hs2
  have HD1 := Lib.hid hd1
  have HD2 := Lib.hid hd2
  have G3 := Lib.hid g3
  have G4 := Lib.hid g4
  have G5 := Lib.hid g5
  have HNE := Lib.hid hne
  clear g1 hlo hs1 g2 hhi hs2 hd1 hd2 g3 g4 g5 hne
  go_enter Tryz.func3, Tryz.ntmps3
  go_wp2_with fail
  refine (D5.out _).mono ?_
  rintro e w1 ⟨rfl, hb1⟩
  have hv1 : IsV w1 w.heap.size (VF x) := (IsV.new _ _).keep hb1
  obtain ⟨c0, c1, c2, c3, c4, c5, c6, c7⟩ := hv1.cells
  have hl1 := hv1.lt
  go_wp2_with fail
  clear c0 c1 c2 c3 c4 c5 c6 c7
  refine (D6.out _).mono ?_
  rintro e w2 ⟨rfl, hb2⟩
  have hv2 : IsV w2 w.heap.size (VF x) := (hv1.alloc _).keep hb2
  have hf2 : IsV w2 w1.heap.size (VF (flo x)) := (IsV.new _ _).keep hb2
  obtain ⟨c0, c1, c2, c3, c4, c5, c6, c7⟩ := hv2.cells
  have hl2 := hv2.lt
  go_wp2_with fail
  clear c0 c1 c2 c3 c4 c5 c6 c7
  refine (D7.out _).mono ?_
  rintro e w3 ⟨rfl, hb3⟩
  have hv3 : IsV w3 w.heap.size (VF x) := (hv2.alloc _).keep hb3
  have hf3 : IsV w3 w1.heap.size (VF (flo x)) := (hf2.alloc _).keep hb3
  have hg3 : IsV w3 w2.heap.size (VF (cei x)) := (IsV.new _ _).keep hb3
  obtain ⟨c0, c1, c2, c3, c4, c5, c6, c7⟩ := hv3.cells
  have hl3 := hv3.lt
  go_wp2_with fail
  clear c0 c1 c2 c3 c4 c5 c6 c7
  refine (D8.out _).mono ?_
  rintro e w4 ⟨rfl, hb4⟩
  have hf4 : IsV w4 w1.heap.size (VF (flo x)) := (hf3.alloc _).keep hb4
  have hg4 : IsV w4 w2.heap.size (VF (cei x)) := (hg3.alloc _).keep hb4
  have hh4 : IsV w4 w3.heap.size (VF (rou x)) := (IsV.new _ _).keep hb4
  have hl4 := hh4.lt
  have hm4 := hg4.lt
  have hn4 := hf4.lt
  clear hv1 hv2 hv3 hf2 hf3 hg3
  have g1 := G1.out
  go_upto_if 51 with (fail)
  clear g1
  go_cut [12] (fun s12 wc => s12 = .float .f64 lo ∧ wc = w4.alloc (.cells (VF (amo x)) 26))
  case first =>
    cases b1
    · have EE := Lib.hid (HLO.out rfl)
      go_wp2
      go_meet
      exact ⟨by rw [EE.out], rfl⟩
    · have hs := fun w => run_float_arith (P := Tryz.prog) w .sub 22 .f64 _ _ _ (HS1.out rfl)
      go_wp2
      go_meet
      exact ⟨rfl, rfl⟩
  case rest =>
  obtain ⟨rfl, rfl⟩ := hcut
  clear HLO HS1 G1 hci
  have g2 := G2.out
  go_upto_if 57 with (fail)
  clear g2
  go_cut [13] (fun s13 wc => s13 = .float .f64 hi ∧ wc = w4.alloc (.cells (VF (amo x)) 26))
  case first =>
    cases b2
    · have EE := Lib.hid (HHI.out rfl)
      go_wp2
      go_meet
      exact ⟨by rw [EE.out], rfl⟩
    · have hs := fun w => run_float_arith (P := Tryz.prog) w .add 22 .f64 _ _ _ (HS2.out rfl)
      go_wp2
      go_meet
      exact ⟨rfl, rfl⟩
  case rest =>
  obtain ⟨rfl, rfl⟩ := hcut
  clear HHI HS2 G2
  go_upto_region 15 with (fail)
  go_cut [80] (fun s80 wc => s80 = .bool (b3 || (b4 && b5)) ∧ wc = w4.alloc (.cells (VF (amo x)) 26))
  case first =>
    have hs1 := fun w => run_float_arith (P := Tryz.prog) w .sub 22 .f64 _ _ _ HD1.out
    have hs2 := fun w => run_float_arith (P := Tryz.prog) w .sub 22 .f64 _ _ _ HD2.out
    have g3 := G3.out
    have g4 := G4.out
    have g5 := G5.out
    cases b3 <;> cases b4 <;> cases b5 <;> (go_wp2; go_meet; exact ⟨rfl, rfl⟩)
  case rest =>
  obtain ⟨rfl, rfl⟩ := hcut
  clear HD1 HD2 G3 G4 G5
  go_upto_if 80 with (fail)
  go_cut [14] (fun s14 wc => s14 = .float .f64 ne ∧ wc = w4.alloc (.cells (VF (amo x)) 26))
  case first =>
    have EE := Lib.hid HNE.out
    clear HNE
    cases b3 <;> cases b4 <;> cases b5 <;> (go_wp2; go_meet; exact ⟨by rw [EE.out]; rfl, rfl⟩)
  case rest =>
  obtain ⟨rfl, rfl⟩ := hcut
  clear HNE
  have hf5 := hf4.alloc (.cells (VF (amo x)) 26)
  have hg5 := hg4.alloc (.cells (VF (amo x)) 26)
  have hh5 := hh4.alloc (.cells (VF (amo x)) 26)
  have hk5 := IsV.new w4 (VF (amo x))
  have hbz : Below w.heap.size w (w4.alloc (.cells (VF (amo x)) 26)) := by
    refine Below.alloc ?_ (by omega) _
    refine Below.trans ?_ (hb4.mono (by simp; omega))
    refine Below.alloc ?_ (by omega) _
    refine Below.trans ?_ (hb3.mono (by simp; omega))
    refine Below.alloc ?_ (by omega) _
    refine Below.trans ?_ (hb2.mono (by simp; omega))
    refine Below.alloc ?_ (by omega) _
    refine Below.trans ?_ (hb1.mono (by simp))
    exact (Below.refl _ _).alloc (Nat.le_refl _) _
  clear hb1 hb2 hb3 hb4 hf4 hg4 hh4
  generalize w4.alloc (.cells (VF (amo x)) 26) = w5 at *
  obtain ⟨f0, f1, f2, f3, f4, f5, f6, f7⟩ := hf5.cells
  obtain ⟨p0, p1, p2, p3, p4, p5, p6, p7⟩ := hg5.cells
  obtain ⟨r0, r1, r2, r3, r4, r5, r6, r7⟩ := hh5.cells
  obtain ⟨t0, t1, t2, t3, t4, t5, t6, t7⟩ := hk5.cells
  go_wp2_with (fail)
  clear f0 f1 f2 f3 f4 f5 f6 f7 p0 p1 p2 p3 p4 p5 p6 p7 r0 r1 r2 r3 r4 r5 r6 r7 t0 t1 t2 t3 t4 t5 t6 t7 hf5 hg5 hh5 hk5
  refine wp_loop_rounds 5 ?_
  rw [rounds_succ]
  go_wp2_with (fail)
  have hneg := run_neg_float x
  clear D5 D6 D7 D8 hl1 hl2 hl3 hl4 hm4 hn4 h1 h2
  go_region
  go_wp2_with (fail)
  rw [rounds_succ]
  go_wp2_with (fail)
  go_region
  go_wp2_with (fail)
  rw [rounds_succ]
  go_wp2_with (fail)
  go_region
  go_wp2_with (fail)
  rw [rounds_succ]
  go_wp2_with (fail)
  go_region
  go_wp2_with (fail)
  rw [rounds_succ]
  go_wp2
  have hsz := hbz.size
  go_returns
  refine ⟨rfl, ?_⟩
  go_grown

set_option maxRecDepth 100000 in
set_option maxHeartbeats 400000 in
theorem law_out1 (x : Nat)
    (h1 : (FloatKind.f64.format.order x 4832362400168542208 == some .lt || FloatKind.f64.format.order x 4832362400168542208 == some .eq) = false)
    (w : World) :
    Calls Tryz.prog 3 #[.float .f64 x] w fun e w' => e = .returned (.bool true) ∧ Below w.heap.size w w' := by
  go_enter Tryz.func3, Tryz.ntmps3
  go_wp2
  go_returns
  exact ⟨rfl, Below.refl _ _⟩

set_option maxRecDepth 100000 in
set_option maxHeartbeats 400000 in
theorem law_out2 (x : Nat)
    (h1 : (FloatKind.f64.format.order x 4832362400168542208 == some .lt || FloatKind.f64.format.order x 4832362400168542208 == some .eq) = true)
    (h2 : (FloatKind.f64.format.order x 14055734437023318016 == some .gt || FloatKind.f64.format.order x 14055734437023318016 == some .eq) = false)
    (w : World) :
    Calls Tryz.prog 3 #[.float .f64 x] w fun e w' => e = .returned (.bool true) ∧ Below w.heap.size w w' := by
  go_enter Tryz.func3, Tryz.ntmps3
  go_wp2
  go_returns
  exact ⟨rfl, Below.refl _ _⟩
end Go.Proofs.YthmogfjmngbamaaGreatDoor
