/- The walk of laws.FnConversions: it returns true for every int64 and every float. Conditions: the table internal/strconv.uint64pow10 reads as its initialiser lays it; what a word within the bounds is made to, as a whole number, is told in a premise. -/
import Derived.Test.YthmogfjmngbamaaGreatDoorBase
import Derived.Test.YthmogfjmngbamaaGreatDoorConvDoors
import Derived.Test.YthmogfjmngbamaaGreatDoorConvWalks
import Derived.Test.YthmogfjmngbamaaGreatDoorVals
import Derived.Deep.DeepCutAuto
import Derived.BigQuiet
import Derived.Deep.QuietTactic
namespace Go.Proofs.YthmogfjmngbamaaGreatDoor
open Go.RowKit
attribute [local go_sem] run_store_float

def VI (n : Int) : Array Value := #[.int .i64 1, .int .i64 n, .int .u64 0, .float .f64 0, .string ⟨#[]⟩, .bool false, .slice none 0 0, .slice none 0 0]
def VR (x : Nat) : Array Value := #[.int .i64 12, .int .i64 0, .int .u64 0, .float .f64 x, .string ⟨#[]⟩, .bool false, .slice none 0 0, .slice none 0 0]
def VT (s : ByteArray) : Array Value := #[.int .i64 13, .int .i64 0, .int .u64 0, .float .f64 0, .string s, .bool false, .slice none 0 0, .slice none 0 0]

set_option maxRecDepth 100000 in
set_option maxHeartbeats 1000000 in
theorem conv_law (n : Int) (h0 : -9223372036854775808 ≤ n) (h1 : n ≤ 9223372036854775807) (x : Nat)
    (hself : (FloatKind.f64.format.order (floatOfInt .f64 n) (floatOfInt .f64 n) != some .eq) = false)
    (w : World) (hT : Lib.TabIs Tryz.prog w "internal/strconv.uint64pow10" .u64 Lib.pow10Tab)
    (hin : (FloatKind.f64.format.order x 4832362400168542208 == some .lt || FloatKind.f64.format.order x 4832362400168542208 == some .eq) = true →
      (FloatKind.f64.format.order x 14055734437023318016 == some .gt || FloatKind.f64.format.order x 14055734437023318016 == some .eq) = true →
      (∃ m, floatToIntVal .f64 x .i64 = some m) ∧ (FloatKind.f64.format.order x x == some .eq) = true) :
    Calls Tryz.prog 4 #[.int .i64 n, .float .f64 x] w fun e w' => e = .returned (.bool true) ∧ Below w.heap.size w w' := by
  have hTB := Lib.tabBelow_of_tabIs hT
  have hds := dig_size n h0 h1
  have D9 := Lib.hid (fun (wx : World) (hwx : Below w.heap.size w wx) => door9_int n 0 0 ⟨#[]⟩ (by decide) false (.slice none 0 0) (.slice none 0 0) (dig n) wx (fun w1 hb => b24_int n h0 h1 w1 (hTB w1 (hwx.trans (hb.mono hwx.size)))))
  have D10t := Lib.hid (fun (wx : World) => door10_text 0 0 0 (dig n) (by omega) false (.slice none 0 0) (.slice none 0 0) n wx (fun w1 _ => b26_text n h0 h1 w1))
  have D10i := Lib.hid (fun (wx : World) => door10_int n 0 0 ⟨#[]⟩ (by decide) false (.slice none 0 0) (.slice none 0 0) n wx (fun w1 _ => b26_int n w1))
  have D11i := Lib.hid (fun (wx : World) => door11_int n 0 0 ⟨#[]⟩ (by decide) false (.slice none 0 0) (.slice none 0 0) (floatOfInt .f64 n) wx (fun w1 _ => b28_int n w1))
  have D10f := Lib.hid (fun (m : Int) (hm : floatToIntVal .f64 x .i64 = some m) (wx : World) => door10_float 0 0 x ⟨#[]⟩ (by decide) false (.slice none 0 0) (.slice none 0 0) m wx (fun w1 _ => b26_float x m hm w1))
  have D11f := Lib.hid (fun (wx : World) => door11_float 0 0 x ⟨#[]⟩ (by decide) false (.slice none 0 0) (.slice none 0 0) x wx (fun w1 _ => b28_float x w1))
  have F12 := Lib.hid (fun wx => (f12_any n.natAbs n wx (Nat.le_refl _) h0 h1).mono (fun e w' (h : e = .returned (.string (dig n)) ∧ wx = w') => (⟨h.1, h.2.symm⟩ : e = .returned (.string (dig n)) ∧ w' = wx)))
  have HIN := Lib.hid hin
  have HS := Lib.hid hself
  clear hT hTB hds hin hself
  go_enter Tryz.func4, Tryz.ntmps4
  go_wp2_with fail
  refine (D9.out _ ((Below.refl _ _).alloc (Nat.le_refl _) _)).mono ?_
  rintro e w1 ⟨rfl, hb1⟩
  have hv1 : IsV w1 w.heap.size (VI n) := (IsV.new _ _).keep hb1
  go_wp2_with fail
  refine (D10t.out _).mono ?_
  rintro e w2 ⟨rfl, hb2⟩
  have hv2 : IsV w2 w.heap.size (VI n) := (hv1.alloc _).keep hb2
  have ht2 : IsV w2 w1.heap.size (VT (dig n)) := (IsV.new _ _).keep hb2
  obtain ⟨c0, c1, c2, c3, c4, c5, c6, c7⟩ := hv2.cells
  have hl2 := hv2.lt
  go_wp2_with fail
  clear c0 c1 c2 c3 c4 c5 c6 c7
  refine (D11i.out _).mono ?_
  rintro e w3 ⟨rfl, hb3⟩
  have hv3 : IsV w3 w.heap.size (VI n) := (hv2.alloc _).keep hb3
  have ht3 : IsV w3 w1.heap.size (VT (dig n)) := (ht2.alloc _).keep hb3
  have hk3 : IsV w3 w2.heap.size (VI n) := (IsV.new _ _).keep hb3
  obtain ⟨c0, c1, c2, c3, c4, c5, c6, c7⟩ := hv3.cells
  have hl3 := hv3.lt
  go_wp2_with fail
  clear c0 c1 c2 c3 c4 c5 c6 c7
  refine (D10i.out _).mono ?_
  rintro e w4 ⟨rfl, hb4⟩
  have ht4 : IsV w4 w1.heap.size (VT (dig n)) := (ht3.alloc _).keep hb4
  have hk4 : IsV w4 w2.heap.size (VI n) := (hk3.alloc _).keep hb4
  have hr4 : IsV w4 w3.heap.size (VR (floatOfInt .f64 n)) := (IsV.new _ _).keep hb4
  go_upto_region 6 with (fail)
  have hbz : Below w.heap.size w (w4.alloc (.cells #[.int .i64 1, .int .i64 n, .int .u64 0, .float .f64 0, .string ⟨#[]⟩, .bool false, .slice none 0 0, .slice none 0 0] 26)) := by
    have := hv1.lt
    have := ht2.lt
    have := hk3.lt
    have := hr4.lt
    refine Below.alloc ?_ (by omega) _
    refine Below.trans ?_ (hb4.mono (by simp; omega))
    refine Below.alloc ?_ (by omega) _
    refine Below.trans ?_ (hb3.mono (by simp; omega))
    refine Below.alloc ?_ (by omega) _
    refine Below.trans ?_ (hb2.mono (by simp; omega))
    refine Below.alloc ?_ (by omega) _
    refine Below.trans ?_ (hb1.mono (by simp))
    exact (Below.refl _ _).alloc (Nat.le_refl _) _
  have ht5 := ht4.alloc (.cells #[.int .i64 1, .int .i64 n, .int .u64 0, .float .f64 0, .string ⟨#[]⟩, .bool false, .slice none 0 0, .slice none 0 0] 26)
  have hk5 := hk4.alloc (.cells #[.int .i64 1, .int .i64 n, .int .u64 0, .float .f64 0, .string ⟨#[]⟩, .bool false, .slice none 0 0, .slice none 0 0] 26)
  have hr5 := hr4.alloc (.cells #[.int .i64 1, .int .i64 n, .int .u64 0, .float .f64 0, .string ⟨#[]⟩, .bool false, .slice none 0 0, .slice none 0 0] 26)
  have hs5 : IsV (w4.alloc (.cells #[.int .i64 1, .int .i64 n, .int .u64 0, .float .f64 0, .string ⟨#[]⟩, .bool false, .slice none 0 0, .slice none 0 0] 26)) w4.heap.size (VI n) := IsV.new w4 (VI n)
  clear hb1 hb2 hb3 hb4 hv1 hv2 hv3 ht2 ht3 ht4 hk3 hk4 hr4 hl2 hl3 D9 D10t D11i D10i
  generalize w4.alloc (.cells #[.int .i64 1, .int .i64 n, .int .u64 0, .float .f64 0, .string ⟨#[]⟩, .bool false, .slice none 0 0, .slice none 0 0] 26) = w5 at *
  obtain ⟨t0, -, -, -, t4, -, -, -⟩ := ht5.cells
  obtain ⟨k0, k1, -, -, -, -, -, -⟩ := hk5.cells
  obtain ⟨r0, -, -, r3, -, -, -, -⟩ := hr5.cells
  obtain ⟨-, s1, -, -, -, -, -, -⟩ := hs5.cells
  have hs := HS.out
  go_quiet ((go_at_call 12; exact Calls.quiet_of_same (F12.out _)))
  have hb6 : Below w.heap.size w (w5.drewN nq) := below_drewN hbz nq
  clear hbz ht5 hk5 hr5 hs5 t0 t4 k0 k1 r0 r3 s1 hs HS F12
  generalize w5.drewN nq = w6 at *
  by_cases g1 : (FloatKind.f64.format.order x 4832362400168542208 == some .lt || FloatKind.f64.format.order x 4832362400168542208 == some .eq) = true
  · by_cases g2 : (FloatKind.f64.format.order x 14055734437023318016 == some .gt || FloatKind.f64.format.order x 14055734437023318016 == some .eq) = true
    · obtain ⟨⟨m, hm⟩, hxx⟩ := HIN.out g1 g2
      have hc2 := fun w => run_convert_float_int (P := Tryz.prog) w 22 2 .f64 .i64 x m (by rw [Tryz.underlying22]; rfl) Tryz.underlying2 hm
      have HM := Lib.hid hm
      clear hm HIN
      go_wp2_with (fail)
      refine (D10f.out m HM.out _).mono ?_
      rintro e w7 ⟨rfl, hb7⟩
      go_wp2_with (fail)
      refine (D11f.out _).mono ?_
      rintro e w8 ⟨rfl, hb8⟩
      have hw8 : IsV w8 w7.heap.size (VI m) := (IsV.new _ _).keep hb8
      obtain ⟨m0, m1, -, -, -, -, -, -⟩ := hw8.cells
      have hl8 := hw8.lt
      go_wp2
      have hs6 := hb6.size
      have hs7 := hb7.size
      have hs8 := hb8.size
      simp at hs8
      go_returns
      refine ⟨rfl, ?_⟩
      refine Below.alloc ?_ (by omega) _
      refine Below.trans ?_ (hb8.mono (by simp; omega))
      refine Below.alloc ?_ (by omega) _
      exact hb6.trans (hb7.mono (by omega))
    · have g2' := Bool.eq_false_iff.2 g2
      clear g2 HIN
      go_wp2
      go_returns
      exact ⟨rfl, hb6⟩
  · have g1' := Bool.eq_false_iff.2 g1
    clear g1 HIN
    go_wp2
    go_returns
    exact ⟨rfl, hb6⟩
end Go.Proofs.YthmogfjmngbamaaGreatDoor
