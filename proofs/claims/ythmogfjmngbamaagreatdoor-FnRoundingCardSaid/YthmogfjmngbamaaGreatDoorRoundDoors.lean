/- The doors Floor, Ceil, Round and Absolute, over what the builtins tell. Conditions: what the builtin's own contract asks. -/
import Derived.Test.YthmogfjmngbamaaGreatDoorBase
import Derived.Test.YthmogfjmngbamaaGreatDoorProg
import Derived.WalkKit
import Derived.WalkSpells
import Derived.WalkLawsBesides
import Derived.Defers
import Derived.Recover
import Derived.Handy
import Derived.Lib.Hide
namespace Go.Proofs.YthmogfjmngbamaaGreatDoor
open Go.RowKit
attribute [local go_sem] run_store_float
attribute [local go_sem] ta22_43 ta22_22 ta22_3 ta22_5 ta22_9 ta22_4

set_option maxHeartbeats 400000 in
theorem catch13 (a b : Addr) (w : World) :
    CallsD Tryz.prog 13 #[.pointer (some a), .pointer (some b)] .returning w fun e u' w' => e = .returned (.tuple #[]) ∧ u' = .returning ∧ w' = w := by
  refine callsD_of_wpS Tryz.func13 rfl fun c₀ cs hu => ?_
  apply wpS_seq
  apply wpS_region
  simp [wpOpsS, go_sem, recoverD, hu, Tryz.ntmps13, Exit.thenS]
  apply wpS_seq
  apply wpS_region
  simp [wpOpsS, go_sem, Exit.thenS]
  refine wpS_cond (t := false) (by simp [Act.eval, Array.replicate]) ?_
  simp only [Bool.false_eq_true, if_false]
  refine wpS_of_wp (wp_skip ?_)
  cases c₀
  simp_all [bodyPostS, results, Tryz.results13]

set_option maxRecDepth 100000 in
set_option maxHeartbeats 400000 in
theorem door5_float (n u : Int) (x : Nat) (s : ByteArray) (hs : s.size ≤ 2000) (b : Bool) (ks l : Value) (y : Nat) (w : World)
    (h : ∀ w1, Below w.heap.size w w1 → Calls Tryz.prog 16 #[.iface 22 (.float .f64 x)] w1 fun e w2 => e = .returned (.iface 22 (.float .f64 y)) ∧ Below w1.heap.size w1 w2) :
    Calls Tryz.prog 5 #[.agg #[.int .i64 12, .int .i64 n, .int .u64 u, .float .f64 x, .string s, .bool b, ks, l]] w fun e w' => e = .returned (.tuple #[.agg #[.int .i64 12, .int .i64 0, .int .u64 0, .float .f64 y, .string ⟨#[]⟩, .bool false, .slice none 0 0, .slice none 0 0], .int .i64 0]) ∧ Below w.heap.size w w' := by
  have hmf : ∀ (fn : Fn) (first cap : Array Value) (w : World), (Instr.makeFunc fn first cap).run Tryz.prog w = .ok (.func fn first cap) w := fun _ _ _ _ => rfl
  have H := Lib.hid h
  clear h
  go_enter_defers Tryz.func5, Tryz.ntmps5
  go_wp2_with fail
  refine (given_float _ _ _ _ hs _ _ _ _).mono ?_
  rintro e w1 ⟨rfl, hb1⟩
  go_wp2_with fail
  refine (H.out _ (out_below hb1)).mono ?_
  rintro e w4 ⟨rfl, hb4⟩
  go_wp2_with fail
  refine (told_float _ _).mono ?_
  rintro e w2 ⟨rfl, hb2⟩
  have hb := (hb1.trans (hb4.mono hb1.size)).trans (hb2.mono (hb1.trans (hb4.mono hb1.size)).size)
  clear hb1 hb2 hb4
  obtain ⟨c0, c1, c2, c3, c4, c5, c6, c7, z0, z1, z2, z3, z4, z5, z6, z7, d0, y0⟩ := out_kept hb
  go_wp2
  refine leaves_cons (f := 13) (args := #[.pointer (some ⟨w.heap.size + 1, 0, none⟩), .pointer (some ⟨w.heap.size + 1 + 1, 0, none⟩)]) (by simp) (by simp [go_sem]) ?_
  refine (catch13 _ _ _).mono ?_
  rintro e u' w'' ⟨rfl, rfl, rfl⟩
  simp [Leaves, settle, results, Tryz.results5, go_sem, c0, c1, c2, c3, c4, c5, c6, c7, d0]
  iterate 9 (refine Below.setCell ?_ (by simp; try omega) _)
  exact out_below hb

set_option maxHeartbeats 400000 in
theorem catch17 (a b : Addr) (w : World) :
    CallsD Tryz.prog 17 #[.pointer (some a), .pointer (some b)] .returning w fun e u' w' => e = .returned (.tuple #[]) ∧ u' = .returning ∧ w' = w := by
  refine callsD_of_wpS Tryz.func17 rfl fun c₀ cs hu => ?_
  apply wpS_seq
  apply wpS_region
  simp [wpOpsS, go_sem, recoverD, hu, Tryz.ntmps17, Exit.thenS]
  apply wpS_seq
  apply wpS_region
  simp [wpOpsS, go_sem, Exit.thenS]
  refine wpS_cond (t := false) (by simp [Act.eval, Array.replicate]) ?_
  simp only [Bool.false_eq_true, if_false]
  refine wpS_of_wp (wp_skip ?_)
  cases c₀
  simp_all [bodyPostS, results, Tryz.results17]

set_option maxRecDepth 100000 in
set_option maxHeartbeats 400000 in
theorem door6_float (n u : Int) (x : Nat) (s : ByteArray) (hs : s.size ≤ 2000) (b : Bool) (ks l : Value) (y : Nat) (w : World)
    (h : ∀ w1, Below w.heap.size w w1 → Calls Tryz.prog 18 #[.iface 22 (.float .f64 x)] w1 fun e w2 => e = .returned (.iface 22 (.float .f64 y)) ∧ Below w1.heap.size w1 w2) :
    Calls Tryz.prog 6 #[.agg #[.int .i64 12, .int .i64 n, .int .u64 u, .float .f64 x, .string s, .bool b, ks, l]] w fun e w' => e = .returned (.tuple #[.agg #[.int .i64 12, .int .i64 0, .int .u64 0, .float .f64 y, .string ⟨#[]⟩, .bool false, .slice none 0 0, .slice none 0 0], .int .i64 0]) ∧ Below w.heap.size w w' := by
  have hmf : ∀ (fn : Fn) (first cap : Array Value) (w : World), (Instr.makeFunc fn first cap).run Tryz.prog w = .ok (.func fn first cap) w := fun _ _ _ _ => rfl
  have H := Lib.hid h
  clear h
  go_enter_defers Tryz.func6, Tryz.ntmps6
  go_wp2_with fail
  refine (given_float _ _ _ _ hs _ _ _ _).mono ?_
  rintro e w1 ⟨rfl, hb1⟩
  go_wp2_with fail
  refine (H.out _ (out_below hb1)).mono ?_
  rintro e w4 ⟨rfl, hb4⟩
  go_wp2_with fail
  refine (told_float _ _).mono ?_
  rintro e w2 ⟨rfl, hb2⟩
  have hb := (hb1.trans (hb4.mono hb1.size)).trans (hb2.mono (hb1.trans (hb4.mono hb1.size)).size)
  clear hb1 hb2 hb4
  obtain ⟨c0, c1, c2, c3, c4, c5, c6, c7, z0, z1, z2, z3, z4, z5, z6, z7, d0, y0⟩ := out_kept hb
  go_wp2
  refine leaves_cons (f := 17) (args := #[.pointer (some ⟨w.heap.size + 1, 0, none⟩), .pointer (some ⟨w.heap.size + 1 + 1, 0, none⟩)]) (by simp) (by simp [go_sem]) ?_
  refine (catch17 _ _ _).mono ?_
  rintro e u' w'' ⟨rfl, rfl, rfl⟩
  simp [Leaves, settle, results, Tryz.results6, go_sem, c0, c1, c2, c3, c4, c5, c6, c7, d0]
  iterate 9 (refine Below.setCell ?_ (by simp; try omega) _)
  exact out_below hb

set_option maxHeartbeats 400000 in
theorem catch19 (a b : Addr) (w : World) :
    CallsD Tryz.prog 19 #[.pointer (some a), .pointer (some b)] .returning w fun e u' w' => e = .returned (.tuple #[]) ∧ u' = .returning ∧ w' = w := by
  refine callsD_of_wpS Tryz.func19 rfl fun c₀ cs hu => ?_
  apply wpS_seq
  apply wpS_region
  simp [wpOpsS, go_sem, recoverD, hu, Tryz.ntmps19, Exit.thenS]
  apply wpS_seq
  apply wpS_region
  simp [wpOpsS, go_sem, Exit.thenS]
  refine wpS_cond (t := false) (by simp [Act.eval, Array.replicate]) ?_
  simp only [Bool.false_eq_true, if_false]
  refine wpS_of_wp (wp_skip ?_)
  cases c₀
  simp_all [bodyPostS, results, Tryz.results19]

set_option maxRecDepth 100000 in
set_option maxHeartbeats 400000 in
theorem door7_float (n u : Int) (x : Nat) (s : ByteArray) (hs : s.size ≤ 2000) (b : Bool) (ks l : Value) (y : Nat) (w : World)
    (h : ∀ w1, Below w.heap.size w w1 → Calls Tryz.prog 20 #[.iface 22 (.float .f64 x)] w1 fun e w2 => e = .returned (.iface 22 (.float .f64 y)) ∧ Below w1.heap.size w1 w2) :
    Calls Tryz.prog 7 #[.agg #[.int .i64 12, .int .i64 n, .int .u64 u, .float .f64 x, .string s, .bool b, ks, l]] w fun e w' => e = .returned (.tuple #[.agg #[.int .i64 12, .int .i64 0, .int .u64 0, .float .f64 y, .string ⟨#[]⟩, .bool false, .slice none 0 0, .slice none 0 0], .int .i64 0]) ∧ Below w.heap.size w w' := by
  have hmf : ∀ (fn : Fn) (first cap : Array Value) (w : World), (Instr.makeFunc fn first cap).run Tryz.prog w = .ok (.func fn first cap) w := fun _ _ _ _ => rfl
  have H := Lib.hid h
  clear h
  go_enter_defers Tryz.func7, Tryz.ntmps7
  go_wp2_with fail
  refine (given_float _ _ _ _ hs _ _ _ _).mono ?_
  rintro e w1 ⟨rfl, hb1⟩
  go_wp2_with fail
  refine (H.out _ (out_below hb1)).mono ?_
  rintro e w4 ⟨rfl, hb4⟩
  go_wp2_with fail
  refine (told_float _ _).mono ?_
  rintro e w2 ⟨rfl, hb2⟩
  have hb := (hb1.trans (hb4.mono hb1.size)).trans (hb2.mono (hb1.trans (hb4.mono hb1.size)).size)
  clear hb1 hb2 hb4
  obtain ⟨c0, c1, c2, c3, c4, c5, c6, c7, z0, z1, z2, z3, z4, z5, z6, z7, d0, y0⟩ := out_kept hb
  go_wp2
  refine leaves_cons (f := 19) (args := #[.pointer (some ⟨w.heap.size + 1, 0, none⟩), .pointer (some ⟨w.heap.size + 1 + 1, 0, none⟩)]) (by simp) (by simp [go_sem]) ?_
  refine (catch19 _ _ _).mono ?_
  rintro e u' w'' ⟨rfl, rfl, rfl⟩
  simp [Leaves, settle, results, Tryz.results7, go_sem, c0, c1, c2, c3, c4, c5, c6, c7, d0]
  iterate 9 (refine Below.setCell ?_ (by simp; try omega) _)
  exact out_below hb

set_option maxHeartbeats 400000 in
theorem catch21 (a b : Addr) (w : World) :
    CallsD Tryz.prog 21 #[.pointer (some a), .pointer (some b)] .returning w fun e u' w' => e = .returned (.tuple #[]) ∧ u' = .returning ∧ w' = w := by
  refine callsD_of_wpS Tryz.func21 rfl fun c₀ cs hu => ?_
  apply wpS_seq
  apply wpS_region
  simp [wpOpsS, go_sem, recoverD, hu, Tryz.ntmps21, Exit.thenS]
  apply wpS_seq
  apply wpS_region
  simp [wpOpsS, go_sem, Exit.thenS]
  refine wpS_cond (t := false) (by simp [Act.eval, Array.replicate]) ?_
  simp only [Bool.false_eq_true, if_false]
  refine wpS_of_wp (wp_skip ?_)
  cases c₀
  simp_all [bodyPostS, results, Tryz.results21]

set_option maxRecDepth 100000 in
set_option maxHeartbeats 400000 in
theorem door8_float (n u : Int) (x : Nat) (s : ByteArray) (hs : s.size ≤ 2000) (b : Bool) (ks l : Value) (y : Nat) (w : World)
    (h : ∀ w1, Below w.heap.size w w1 → Calls Tryz.prog 22 #[.iface 22 (.float .f64 x)] w1 fun e w2 => e = .returned (.iface 22 (.float .f64 y)) ∧ Below w1.heap.size w1 w2) :
    Calls Tryz.prog 8 #[.agg #[.int .i64 12, .int .i64 n, .int .u64 u, .float .f64 x, .string s, .bool b, ks, l]] w fun e w' => e = .returned (.tuple #[.agg #[.int .i64 12, .int .i64 0, .int .u64 0, .float .f64 y, .string ⟨#[]⟩, .bool false, .slice none 0 0, .slice none 0 0], .int .i64 0]) ∧ Below w.heap.size w w' := by
  have hmf : ∀ (fn : Fn) (first cap : Array Value) (w : World), (Instr.makeFunc fn first cap).run Tryz.prog w = .ok (.func fn first cap) w := fun _ _ _ _ => rfl
  have H := Lib.hid h
  clear h
  go_enter_defers Tryz.func8, Tryz.ntmps8
  go_wp2_with fail
  refine (given_float _ _ _ _ hs _ _ _ _).mono ?_
  rintro e w1 ⟨rfl, hb1⟩
  go_wp2_with fail
  refine (H.out _ (out_below hb1)).mono ?_
  rintro e w4 ⟨rfl, hb4⟩
  go_wp2_with fail
  refine (told_float _ _).mono ?_
  rintro e w2 ⟨rfl, hb2⟩
  have hb := (hb1.trans (hb4.mono hb1.size)).trans (hb2.mono (hb1.trans (hb4.mono hb1.size)).size)
  clear hb1 hb2 hb4
  obtain ⟨c0, c1, c2, c3, c4, c5, c6, c7, z0, z1, z2, z3, z4, z5, z6, z7, d0, y0⟩ := out_kept hb
  go_wp2
  refine leaves_cons (f := 21) (args := #[.pointer (some ⟨w.heap.size + 1, 0, none⟩), .pointer (some ⟨w.heap.size + 1 + 1, 0, none⟩)]) (by simp) (by simp [go_sem]) ?_
  refine (catch21 _ _ _).mono ?_
  rintro e u' w'' ⟨rfl, rfl, rfl⟩
  simp [Leaves, settle, results, Tryz.results8, go_sem, c0, c1, c2, c3, c4, c5, c6, c7, d0]
  iterate 9 (refine Below.setCell ?_ (by simp; try omega) _)
  exact out_below hb
end Go.Proofs.YthmogfjmngbamaaGreatDoor
