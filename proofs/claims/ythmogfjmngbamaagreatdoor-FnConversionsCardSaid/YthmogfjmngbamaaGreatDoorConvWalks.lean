/- The builtins String, Int and Float of package builtin at the values that laws.FnConversions hands them. Conditions: whole numbers are int64; the table internal/strconv.uint64pow10 reads as its initialiser lays it. -/
import Derived.Test.YthmogfjmngbamaaGreatDoorBase
import Derived.Test.YthmogfjmngbamaaGreatDoorShelf
import Derived.Test.YthmogfjmngbamaaGreatDoorDigits
import Derived.Lib.AppendIntMem
import Derived.Lib.Slices
import Derived.Lib.ConvBytes
import Derived.Lib.AtoiErrMem
import Derived.Laws.IdiomStrings
import Derived.OwnWalk
namespace Go.Proofs.YthmogfjmngbamaaGreatDoor
open Go.RowKit
attribute [local go_sem] run_store_float ta3_3 ta3_43 ta3_22 ta3_45 ta3_46 ta3_21 ta3_2 ta3_47 ta3_5 ta3_48 ta3_49 ta3_23 ta3_9 ta3_58 ta3_66 ta3_29 ta3_69 ta3_71 ta3_60 ta3_4 ta9_43 ta9_22 ta9_3 ta9_45 ta9_46 ta9_21 ta9_2 ta9_47 ta9_5 ta9_48 ta9_49 ta9_23 ta9_9 ta22_43 ta22_22

set_option maxRecDepth 100000 in
set_option maxHeartbeats 400000 in
theorem f65_int (n : Int) (w : World) :
    Calls Tryz.prog 65 #[.iface 3 (.int .i64 n)] w fun e w' => e = .returned (.tuple #[.slice none 0 0, .bool false]) ∧ w = w' := by
  go_enter Tryz.func65, Tryz.ntmps65
  go_wp2
  go_returns
  exact ⟨rfl, rfl⟩

/-- a slice of the call's own that holds the numeral -/
def OwnText (n : Int) (w : World) (e : Ending) (w' : World) : Prop :=
  ∃ v', e = .returned v' ∧ w'.ownsRow w.heap.size 5 1 v' (Lib.itoa n).length (Lib.byteCells (Lib.itoa n)) ∧ Below w.heap.size w w'

set_option maxRecDepth 100000 in
set_option maxHeartbeats 400000 in
theorem f56_int (n : Int) (h0 : -9223372036854775808 ≤ n) (h1 : n ≤ 9223372036854775807) (w : World)
    (hT : Lib.TabIs Tryz.prog w "internal/strconv.uint64pow10" .u64 Lib.pow10Tab) :
    Calls Tryz.prog 56 #[.slice none 0 0, .iface 3 (.int .i64 n)] w (OwnText n w) := by
  have hc := Tryz.strconv_AppendInt_10 w.heap.size 0 n h0 h1 (.slice none 0 0) [] w (World.ownsRow_nil _ _ _ _) (Nat.le_refl _) (by omega) (Lib.tabBelow_of_tabIs hT)
  have HC := Lib.hid hc
  have F65 := Lib.hid (f65_int n)
  clear hc hT h0 h1
  go_enter Tryz.func56, Tryz.ntmps56
  go_wp2_with fail
  refine (F65.out _).mono ?_
  rintro e w' ⟨rfl, rfl⟩
  go_wp2_with fail
  refine HC.out.mono ?_
  rintro e w1 ⟨v1, rfl, hown, hb, -⟩
  rw [Nat.zero_add, List.nil_append] at hown
  go_wp2
  go_returns
  exact ⟨v1, rfl, hown, hb⟩

set_option maxRecDepth 100000 in
set_option maxHeartbeats 400000 in
theorem f35_int (n : Int) (h0 : -9223372036854775808 ≤ n) (h1 : n ≤ 9223372036854775807) (w : World)
    (hT : Lib.TabIs Tryz.prog w "internal/strconv.uint64pow10" .u64 Lib.pow10Tab) :
    Calls Tryz.prog 35 #[.iface 3 (.int .i64 n)] w fun e w' => e = .returned (.string (dig n)) ∧ Below w.heap.size w w' := by
  have HC := Lib.hid (f56_int n h0 h1 w hT)
  have hpos : 0 < (Lib.itoa n).length := by
    unfold Lib.itoa
    split
    · rw [List.length_cons]; omega
    · obtain ⟨d, r, _, hr⟩ := decDigits_head n.toNat n.toNat (Nat.le_refl _)
      rw [hr, List.length_cons]; omega
  clear hT h0 h1
  go_enter Tryz.func35, Tryz.ntmps35
  go_wp2_with fail
  refine HC.out.mono ?_
  rintro e w1 ⟨v1, rfl, hown, hb⟩
  rcases hown.2 with ⟨-, h0⟩ | ⟨g, cap, cur, rfl, -, -, -, -, -, -⟩
  · omega
  · have hcv : (convert 78 9 (.slice (some ⟨g, 0, none⟩) (Lib.itoa n).length cap)).run Tryz.prog w1 = .ok (.string (dig n)) w1 :=
      run_convert_bytes_back (P := Tryz.prog) w1 78 9 5 ⟨g, 0, none⟩ cap (Lib.itoa n) Tryz.underlying78 Tryz.underlying5 Tryz.underlying9 (fun j hj => hown.cells (g := g) rfl j _ (by simp [Lib.byteCells, hj]))
    clear hown
    go_wp2
    go_returns
    exact ⟨rfl, hb⟩

set_option maxRecDepth 100000 in
set_option maxHeartbeats 400000 in
theorem b24_int (n : Int) (h0 : -9223372036854775808 ≤ n) (h1 : n ≤ 9223372036854775807) (w : World)
    (hT : Lib.TabIs Tryz.prog w "internal/strconv.uint64pow10" .u64 Lib.pow10Tab) :
    Calls Tryz.prog 24 #[.iface 3 (.int .i64 n)] w fun e w' => e = .returned (.iface 9 (.string (dig n))) ∧ Below w.heap.size w w' := by
  have HC := Lib.hid (f35_int n h0 h1 w hT)
  clear hT h0 h1
  go_enter Tryz.func24, Tryz.ntmps24
  go_wp2_with fail
  refine HC.out.mono ?_
  rintro e w1 ⟨rfl, hb⟩
  go_wp2
  go_returns
  exact ⟨rfl, hb⟩

set_option maxRecDepth 100000 in
set_option maxHeartbeats 400000 in
theorem b26_int (n : Int) (w : World) :
    Calls Tryz.prog 26 #[.iface 3 (.int .i64 n)] w fun e w' => e = .returned (.iface 3 (.int .i64 n)) ∧ Below w.heap.size w w' := by
  go_enter Tryz.func26, Tryz.ntmps26
  go_wp2
  go_returns
  exact ⟨rfl, Below.refl _ _⟩

set_option maxRecDepth 100000 in
set_option maxHeartbeats 400000 in
theorem b26_float (x : Nat) (n : Int) (h : floatToIntVal .f64 x .i64 = some n) (w : World) :
    Calls Tryz.prog 26 #[.iface 22 (.float .f64 x)] w fun e w' => e = .returned (.iface 3 (.int .i64 n)) ∧ Below w.heap.size w w' := by
  have hci := fun w => run_convert_float_int (P := Tryz.prog) w 22 3 .f64 .i64 x n (by rw [Tryz.underlying22]; rfl) Tryz.underlying3 h
  clear h
  go_enter Tryz.func26, Tryz.ntmps26
  go_wp2
  go_returns
  exact ⟨rfl, Below.refl _ _⟩

set_option maxRecDepth 100000 in
set_option maxHeartbeats 400000 in
theorem b26_text (n : Int) (h0 : -9223372036854775808 ≤ n) (h1 : n ≤ 9223372036854775807) (w : World) :
    Calls Tryz.prog 26 #[.iface 9 (.string (dig n))] w fun e w' => e = .returned (.iface 3 (.int .i64 n)) ∧ Below w.heap.size w w' := by
  have hc := Tryz.strconv_Atoi_ok (dig n) (by have := dig_size n h0 h1; omega) n (by
    have : (dig n).data.toList = Lib.itoa n := by unfold dig; simp
    rw [this]; exact atoi_itoa n h0 h1) w
  have hc2 : Calls Tryz.prog 36 #[.string (dig n)] w fun e w' => e = .returned (.tuple #[.int .i64 n, .nilIface]) ∧ Below w.heap.size w w' := by
    refine hc.mono fun e w' ⟨he, hw⟩ => ⟨he, ?_⟩
    rcases hw with rfl | ⟨t, rfl⟩
    · exact Below.refl _ _
    · exact Lib.bytesWorld_below _ _ _
  have HC := Lib.hid hc2
  clear hc hc2 h0 h1
  go_enter Tryz.func26, Tryz.ntmps26
  go_wp2_with fail
  refine HC.out.mono ?_
  rintro e w1 ⟨rfl, hb⟩
  go_wp2
  go_returns
  exact ⟨rfl, hb⟩

set_option maxRecDepth 100000 in
set_option maxHeartbeats 400000 in
theorem b28_int (n : Int) (w : World) :
    Calls Tryz.prog 28 #[.iface 3 (.int .i64 n)] w fun e w' => e = .returned (.iface 22 (.float .f64 (floatOfInt .f64 n))) ∧ Below w.heap.size w w' := by
  go_enter Tryz.func28, Tryz.ntmps28
  go_wp2
  go_returns
  exact ⟨rfl, Below.refl _ _⟩

set_option maxRecDepth 100000 in
set_option maxHeartbeats 400000 in
theorem b28_float (x : Nat) (w : World) :
    Calls Tryz.prog 28 #[.iface 22 (.float .f64 x)] w fun e w' => e = .returned (.iface 22 (.float .f64 x)) ∧ Below w.heap.size w w' := by
  go_enter Tryz.func28, Tryz.ntmps28
  go_wp2
  go_returns
  exact ⟨rfl, Below.refl _ _⟩
end Go.Proofs.YthmogfjmngbamaaGreatDoor
