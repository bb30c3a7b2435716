/- The doors AsText, AsInt and AsFloat, over what the builtins tell. Conditions: what the builtin's own contract asks. -/
import Derived.Test.YthmogfjmngbamaaGreatDoorBase
import Derived.Test.YthmogfjmngbamaaGreatDoorProg
import Derived.WalkKit
import Derived.WalkSpells
import Derived.WalkLawsBesides
import Derived.Defers
import Derived.Recover
import Derived.Handy
import Derived.Lib.Hide
namespace Go.Proofs.YthmogfjmngbamaaGreatDoor
open Go.RowKit
attribute [local go_sem] run_store_float
attribute [local go_sem] ta22_43 ta22_22 ta22_3 ta22_5 ta22_9 ta22_4 ta3_3 ta3_43 ta3_22 ta3_45 ta3_46 ta3_21 ta3_2 ta3_47 ta3_5 ta3_48 ta3_49 ta3_23 ta3_9 ta3_58 ta3_66 ta3_29 ta3_69 ta3_71 ta3_60 ta3_4 ta9_3 ta9_5 ta9_22 ta9_9 ta9_43 ta9_45 ta9_46 ta9_21 ta9_2 ta9_47 ta9_48 ta9_49 ta9_23

set_option maxHeartbeats 400000 in
theorem catch23 (a b : Addr) (w : World) :
    CallsD Tryz.prog 23 #[.pointer (some a), .pointer (some b)] .returning w fun e u' w' => e = .returned (.tuple #[]) ∧ u' = .returning ∧ w' = w := by
  refine callsD_of_wpS Tryz.func23 rfl fun c₀ cs hu => ?_
  apply wpS_seq
  apply wpS_region
  simp [wpOpsS, go_sem, recoverD, hu, Tryz.ntmps23, Exit.thenS]
  apply wpS_seq
  apply wpS_region
  simp [wpOpsS, go_sem, Exit.thenS]
  refine wpS_cond (t := false) (by simp [Act.eval, Array.replicate]) ?_
  simp only [Bool.false_eq_true, if_false]
  refine wpS_of_wp (wp_skip ?_)
  cases c₀
  simp_all [bodyPostS, results, Tryz.results23]

set_option maxRecDepth 100000 in
set_option maxHeartbeats 400000 in
theorem door9_int (n u : Int) (x : Nat) (s : ByteArray) (hs : s.size ≤ 2000) (b : Bool) (ks l : Value) (t : ByteArray) (w : World)
    (h : ∀ w1, Below w.heap.size w w1 → Calls Tryz.prog 24 #[.iface 3 (.int .i64 n)] w1 fun e w2 => e = .returned (.iface 9 (.string t)) ∧ Below w1.heap.size w1 w2) :
    Calls Tryz.prog 9 #[.agg #[.int .i64 1, .int .i64 n, .int .u64 u, .float .f64 x, .string s, .bool b, ks, l]] w fun e w' => e = .returned (.tuple #[.agg #[.int .i64 13, .int .i64 0, .int .u64 0, .float .f64 0, .string t, .bool false, .slice none 0 0, .slice none 0 0], .int .i64 0]) ∧ Below w.heap.size w w' := by
  have hmf : ∀ (fn : Fn) (first cap : Array Value) (w : World), (Instr.makeFunc fn first cap).run Tryz.prog w = .ok (.func fn first cap) w := fun _ _ _ _ => rfl
  have H := Lib.hid h
  clear h
  go_enter_defers Tryz.func9, Tryz.ntmps9
  go_wp2_with fail
  refine (given_int _ _ _ _ hs _ _ _ _).mono ?_
  rintro e w1 ⟨rfl, hb1⟩
  go_wp2_with fail
  refine (H.out _ (out_below hb1)).mono ?_
  rintro e w4 ⟨rfl, hb4⟩
  go_wp2_with fail
  refine (told_text _ _).mono ?_
  rintro e w2 ⟨rfl, hb2⟩
  have hb := (hb1.trans (hb4.mono hb1.size)).trans (hb2.mono (hb1.trans (hb4.mono hb1.size)).size)
  clear hb1 hb2 hb4
  obtain ⟨c0, c1, c2, c3, c4, c5, c6, c7, z0, z1, z2, z3, z4, z5, z6, z7, d0, y0⟩ := out_kept hb
  go_wp2
  refine leaves_cons (f := 23) (args := #[.pointer (some ⟨w.heap.size + 1, 0, none⟩), .pointer (some ⟨w.heap.size + 1 + 1, 0, none⟩)]) (by simp) (by simp [go_sem]) ?_
  refine (catch23 _ _ _).mono ?_
  rintro e u' w'' ⟨rfl, rfl, rfl⟩
  simp [Leaves, settle, results, Tryz.results9, go_sem, c0, c1, c2, c3, c4, c5, c6, c7, d0]
  iterate 9 (refine Below.setCell ?_ (by simp; try omega) _)
  exact out_below hb

set_option maxHeartbeats 400000 in
theorem catch25 (a b : Addr) (w : World) :
    CallsD Tryz.prog 25 #[.pointer (some a), .pointer (some b)] .returning w fun e u' w' => e = .returned (.tuple #[]) ∧ u' = .returning ∧ w' = w := by
  refine callsD_of_wpS Tryz.func25 rfl fun c₀ cs hu => ?_
  apply wpS_seq
  apply wpS_region
  simp [wpOpsS, go_sem, recoverD, hu, Tryz.ntmps25, Exit.thenS]
  apply wpS_seq
  apply wpS_region
  simp [wpOpsS, go_sem, Exit.thenS]
  refine wpS_cond (t := false) (by simp [Act.eval, Array.replicate]) ?_
  simp only [Bool.false_eq_true, if_false]
  refine wpS_of_wp (wp_skip ?_)
  cases c₀
  simp_all [bodyPostS, results, Tryz.results25]

set_option maxRecDepth 100000 in
set_option maxHeartbeats 400000 in
theorem door10_int (n u : Int) (x : Nat) (s : ByteArray) (hs : s.size ≤ 2000) (b : Bool) (ks l : Value) (m : Int) (w : World)
    (h : ∀ w1, Below w.heap.size w w1 → Calls Tryz.prog 26 #[.iface 3 (.int .i64 n)] w1 fun e w2 => e = .returned (.iface 3 (.int .i64 m)) ∧ Below w1.heap.size w1 w2) :
    Calls Tryz.prog 10 #[.agg #[.int .i64 1, .int .i64 n, .int .u64 u, .float .f64 x, .string s, .bool b, ks, l]] w fun e w' => e = .returned (.tuple #[.agg #[.int .i64 1, .int .i64 m, .int .u64 0, .float .f64 0, .string ⟨#[]⟩, .bool false, .slice none 0 0, .slice none 0 0], .int .i64 0]) ∧ Below w.heap.size w w' := by
  have hmf : ∀ (fn : Fn) (first cap : Array Value) (w : World), (Instr.makeFunc fn first cap).run Tryz.prog w = .ok (.func fn first cap) w := fun _ _ _ _ => rfl
  have H := Lib.hid h
  clear h
  go_enter_defers Tryz.func10, Tryz.ntmps10
  go_wp2_with fail
  refine (given_int _ _ _ _ hs _ _ _ _).mono ?_
  rintro e w1 ⟨rfl, hb1⟩
  go_wp2_with fail
  refine (H.out _ (out_below hb1)).mono ?_
  rintro e w4 ⟨rfl, hb4⟩
  go_wp2_with fail
  refine (told_int _ _).mono ?_
  rintro e w2 ⟨rfl, hb2⟩
  have hb := (hb1.trans (hb4.mono hb1.size)).trans (hb2.mono (hb1.trans (hb4.mono hb1.size)).size)
  clear hb1 hb2 hb4
  obtain ⟨c0, c1, c2, c3, c4, c5, c6, c7, z0, z1, z2, z3, z4, z5, z6, z7, d0, y0⟩ := out_kept hb
  go_wp2
  refine leaves_cons (f := 25) (args := #[.pointer (some ⟨w.heap.size + 1, 0, none⟩), .pointer (some ⟨w.heap.size + 1 + 1, 0, none⟩)]) (by simp) (by simp [go_sem]) ?_
  refine (catch25 _ _ _).mono ?_
  rintro e u' w'' ⟨rfl, rfl, rfl⟩
  simp [Leaves, settle, results, Tryz.results10, go_sem, c0, c1, c2, c3, c4, c5, c6, c7, d0]
  iterate 9 (refine Below.setCell ?_ (by simp; try omega) _)
  exact out_below hb

set_option maxRecDepth 100000 in
set_option maxHeartbeats 400000 in
theorem door10_text (n u : Int) (x : Nat) (s : ByteArray) (hs : s.size ≤ 2000) (b : Bool) (ks l : Value) (m : Int) (w : World)
    (h : ∀ w1, Below w.heap.size w w1 → Calls Tryz.prog 26 #[.iface 9 (.string s)] w1 fun e w2 => e = .returned (.iface 3 (.int .i64 m)) ∧ Below w1.heap.size w1 w2) :
    Calls Tryz.prog 10 #[.agg #[.int .i64 13, .int .i64 n, .int .u64 u, .float .f64 x, .string s, .bool b, ks, l]] w fun e w' => e = .returned (.tuple #[.agg #[.int .i64 1, .int .i64 m, .int .u64 0, .float .f64 0, .string ⟨#[]⟩, .bool false, .slice none 0 0, .slice none 0 0], .int .i64 0]) ∧ Below w.heap.size w w' := by
  have hmf : ∀ (fn : Fn) (first cap : Array Value) (w : World), (Instr.makeFunc fn first cap).run Tryz.prog w = .ok (.func fn first cap) w := fun _ _ _ _ => rfl
  have H := Lib.hid h
  clear h
  go_enter_defers Tryz.func10, Tryz.ntmps10
  go_wp2_with fail
  refine (given_text _ _ _ _ hs _ _ _ _).mono ?_
  rintro e w1 ⟨rfl, hb1⟩
  go_wp2_with fail
  refine (H.out _ (out_below hb1)).mono ?_
  rintro e w4 ⟨rfl, hb4⟩
  go_wp2_with fail
  refine (told_int _ _).mono ?_
  rintro e w2 ⟨rfl, hb2⟩
  have hb := (hb1.trans (hb4.mono hb1.size)).trans (hb2.mono (hb1.trans (hb4.mono hb1.size)).size)
  clear hb1 hb2 hb4
  obtain ⟨c0, c1, c2, c3, c4, c5, c6, c7, z0, z1, z2, z3, z4, z5, z6, z7, d0, y0⟩ := out_kept hb
  go_wp2
  refine leaves_cons (f := 25) (args := #[.pointer (some ⟨w.heap.size + 1, 0, none⟩), .pointer (some ⟨w.heap.size + 1 + 1, 0, none⟩)]) (by simp) (by simp [go_sem]) ?_
  refine (catch25 _ _ _).mono ?_
  rintro e u' w'' ⟨rfl, rfl, rfl⟩
  simp [Leaves, settle, results, Tryz.results10, go_sem, c0, c1, c2, c3, c4, c5, c6, c7, d0]
  iterate 9 (refine Below.setCell ?_ (by simp; try omega) _)
  exact out_below hb

set_option maxRecDepth 100000 in
set_option maxHeartbeats 400000 in
theorem door10_float (n u : Int) (x : Nat) (s : ByteArray) (hs : s.size ≤ 2000) (b : Bool) (ks l : Value) (m : Int) (w : World)
    (h : ∀ w1, Below w.heap.size w w1 → Calls Tryz.prog 26 #[.iface 22 (.float .f64 x)] w1 fun e w2 => e = .returned (.iface 3 (.int .i64 m)) ∧ Below w1.heap.size w1 w2) :
    Calls Tryz.prog 10 #[.agg #[.int .i64 12, .int .i64 n, .int .u64 u, .float .f64 x, .string s, .bool b, ks, l]] w fun e w' => e = .returned (.tuple #[.agg #[.int .i64 1, .int .i64 m, .int .u64 0, .float .f64 0, .string ⟨#[]⟩, .bool false, .slice none 0 0, .slice none 0 0], .int .i64 0]) ∧ Below w.heap.size w w' := by
  have hmf : ∀ (fn : Fn) (first cap : Array Value) (w : World), (Instr.makeFunc fn first cap).run Tryz.prog w = .ok (.func fn first cap) w := fun _ _ _ _ => rfl
  have H := Lib.hid h
  clear h
  go_enter_defers Tryz.func10, Tryz.ntmps10
  go_wp2_with fail
  refine (given_float _ _ _ _ hs _ _ _ _).mono ?_
  rintro e w1 ⟨rfl, hb1⟩
  go_wp2_with fail
  refine (H.out _ (out_below hb1)).mono ?_
  rintro e w4 ⟨rfl, hb4⟩
  go_wp2_with fail
  refine (told_int _ _).mono ?_
  rintro e w2 ⟨rfl, hb2⟩
  have hb := (hb1.trans (hb4.mono hb1.size)).trans (hb2.mono (hb1.trans (hb4.mono hb1.size)).size)
  clear hb1 hb2 hb4
  obtain ⟨c0, c1, c2, c3, c4, c5, c6, c7, z0, z1, z2, z3, z4, z5, z6, z7, d0, y0⟩ := out_kept hb
  go_wp2
  refine leaves_cons (f := 25) (args := #[.pointer (some ⟨w.heap.size + 1, 0, none⟩), .pointer (some ⟨w.heap.size + 1 + 1, 0, none⟩)]) (by simp) (by simp [go_sem]) ?_
  refine (catch25 _ _ _).mono ?_
  rintro e u' w'' ⟨rfl, rfl, rfl⟩
  simp [Leaves, settle, results, Tryz.results10, go_sem, c0, c1, c2, c3, c4, c5, c6, c7, d0]
  iterate 9 (refine Below.setCell ?_ (by simp; try omega) _)
  exact out_below hb

set_option maxHeartbeats 400000 in
theorem catch27 (a b : Addr) (w : World) :
    CallsD Tryz.prog 27 #[.pointer (some a), .pointer (some b)] .returning w fun e u' w' => e = .returned (.tuple #[]) ∧ u' = .returning ∧ w' = w := by
  refine callsD_of_wpS Tryz.func27 rfl fun c₀ cs hu => ?_
  apply wpS_seq
  apply wpS_region
  simp [wpOpsS, go_sem, recoverD, hu, Tryz.ntmps27, Exit.thenS]
  apply wpS_seq
  apply wpS_region
  simp [wpOpsS, go_sem, Exit.thenS]
  refine wpS_cond (t := false) (by simp [Act.eval, Array.replicate]) ?_
  simp only [Bool.false_eq_true, if_false]
  refine wpS_of_wp (wp_skip ?_)
  cases c₀
  simp_all [bodyPostS, results, Tryz.results27]

set_option maxRecDepth 100000 in
set_option maxHeartbeats 400000 in
theorem door11_int (n u : Int) (x : Nat) (s : ByteArray) (hs : s.size ≤ 2000) (b : Bool) (ks l : Value) (y : Nat) (w : World)
    (h : ∀ w1, Below w.heap.size w w1 → Calls Tryz.prog 28 #[.iface 3 (.int .i64 n)] w1 fun e w2 => e = .returned (.iface 22 (.float .f64 y)) ∧ Below w1.heap.size w1 w2) :
    Calls Tryz.prog 11 #[.agg #[.int .i64 1, .int .i64 n, .int .u64 u, .float .f64 x, .string s, .bool b, ks, l]] w fun e w' => e = .returned (.tuple #[.agg #[.int .i64 12, .int .i64 0, .int .u64 0, .float .f64 y, .string ⟨#[]⟩, .bool false, .slice none 0 0, .slice none 0 0], .int .i64 0]) ∧ Below w.heap.size w w' := by
  have hmf : ∀ (fn : Fn) (first cap : Array Value) (w : World), (Instr.makeFunc fn first cap).run Tryz.prog w = .ok (.func fn first cap) w := fun _ _ _ _ => rfl
  have H := Lib.hid h
  clear h
  go_enter_defers Tryz.func11, Tryz.ntmps11
  go_wp2_with fail
  refine (given_int _ _ _ _ hs _ _ _ _).mono ?_
  rintro e w1 ⟨rfl, hb1⟩
  go_wp2_with fail
  refine (H.out _ (out_below hb1)).mono ?_
  rintro e w4 ⟨rfl, hb4⟩
  go_wp2_with fail
  refine (told_float _ _).mono ?_
  rintro e w2 ⟨rfl, hb2⟩
  have hb := (hb1.trans (hb4.mono hb1.size)).trans (hb2.mono (hb1.trans (hb4.mono hb1.size)).size)
  clear hb1 hb2 hb4
  obtain ⟨c0, c1, c2, c3, c4, c5, c6, c7, z0, z1, z2, z3, z4, z5, z6, z7, d0, y0⟩ := out_kept hb
  go_wp2
  refine leaves_cons (f := 27) (args := #[.pointer (some ⟨w.heap.size + 1, 0, none⟩), .pointer (some ⟨w.heap.size + 1 + 1, 0, none⟩)]) (by simp) (by simp [go_sem]) ?_
  refine (catch27 _ _ _).mono ?_
  rintro e u' w'' ⟨rfl, rfl, rfl⟩
  simp [Leaves, settle, results, Tryz.results11, go_sem, c0, c1, c2, c3, c4, c5, c6, c7, d0]
  iterate 9 (refine Below.setCell ?_ (by simp; try omega) _)
  exact out_below hb

set_option maxRecDepth 100000 in
set_option maxHeartbeats 400000 in
theorem door11_float (n u : Int) (x : Nat) (s : ByteArray) (hs : s.size ≤ 2000) (b : Bool) (ks l : Value) (y : Nat) (w : World)
    (h : ∀ w1, Below w.heap.size w w1 → Calls Tryz.prog 28 #[.iface 22 (.float .f64 x)] w1 fun e w2 => e = .returned (.iface 22 (.float .f64 y)) ∧ Below w1.heap.size w1 w2) :
    Calls Tryz.prog 11 #[.agg #[.int .i64 12, .int .i64 n, .int .u64 u, .float .f64 x, .string s, .bool b, ks, l]] w fun e w' => e = .returned (.tuple #[.agg #[.int .i64 12, .int .i64 0, .int .u64 0, .float .f64 y, .string ⟨#[]⟩, .bool false, .slice none 0 0, .slice none 0 0], .int .i64 0]) ∧ Below w.heap.size w w' := by
  have hmf : ∀ (fn : Fn) (first cap : Array Value) (w : World), (Instr.makeFunc fn first cap).run Tryz.prog w = .ok (.func fn first cap) w := fun _ _ _ _ => rfl
  have H := Lib.hid h
  clear h
  go_enter_defers Tryz.func11, Tryz.ntmps11
  go_wp2_with fail
  refine (given_float _ _ _ _ hs _ _ _ _).mono ?_
  rintro e w1 ⟨rfl, hb1⟩
  go_wp2_with fail
  refine (H.out _ (out_below hb1)).mono ?_
  rintro e w4 ⟨rfl, hb4⟩
  go_wp2_with fail
  refine (told_float _ _).mono ?_
  rintro e w2 ⟨rfl, hb2⟩
  have hb := (hb1.trans (hb4.mono hb1.size)).trans (hb2.mono (hb1.trans (hb4.mono hb1.size)).size)
  clear hb1 hb2 hb4
  obtain ⟨c0, c1, c2, c3, c4, c5, c6, c7, z0, z1, z2, z3, z4, z5, z6, z7, d0, y0⟩ := out_kept hb
  go_wp2
  refine leaves_cons (f := 27) (args := #[.pointer (some ⟨w.heap.size + 1, 0, none⟩), .pointer (some ⟨w.heap.size + 1 + 1, 0, none⟩)]) (by simp) (by simp [go_sem]) ?_
  refine (catch27 _ _ _).mono ?_
  rintro e u' w'' ⟨rfl, rfl, rfl⟩
  simp [Leaves, settle, results, Tryz.results11, go_sem, c0, c1, c2, c3, c4, c5, c6, c7, d0]
  iterate 9 (refine Below.setCell ?_ (by simp; try omega) _)
  exact out_below hb
end Go.Proofs.YthmogfjmngbamaaGreatDoor
