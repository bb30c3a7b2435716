/- What the doors of the thin package make of a float, a whole number and a text: the type assertions, the closures that recover, given and told. Conditions: texts of at most 2000 bytes. -/
import Derived.Test.YthmogfjmngbamaaGreatDoorProg
import Derived.WalkKit
import Derived.WalkSpells
import Derived.WalkLawsBesides
import Derived.Defers
import Derived.Recover
import Derived.Handy
import Derived.Lib.Hide
namespace Go.Proofs.YthmogfjmngbamaaGreatDoor
open Go.RowKit

section
variable {P : Program} {w : World} {a : Addr} {m : Mode}
theorem run_store_float (k : FloatKind) (x : Nat) : (store a (.float k x) m).run P w = stored P w a (.float k x) m := run_store P w a _ m rfl
end
attribute [local go_sem] run_store_float
theorem ta22_43 (v : Value) (w : World) : (Instr.typeAssert (.iface 22 v) 20 43 true).run Tryz.prog w = .ok (.tuple #[.float .f32 0, .bool false]) w := by kernel_rfl
theorem ta22_22 (v : Value) (w : World) : (Instr.typeAssert (.iface 22 v) 20 22 true).run Tryz.prog w = .ok (.tuple #[v, .bool true]) w := by kernel_rfl
theorem ta22_3 (v : Value) (w : World) : (Instr.typeAssert (.iface 22 v) 20 3 true).run Tryz.prog w = .ok (.tuple #[.int .i64 0, .bool false]) w := by kernel_rfl
theorem ta22_5 (v : Value) (w : World) : (Instr.typeAssert (.iface 22 v) 20 5 true).run Tryz.prog w = .ok (.tuple #[.int .u8 0, .bool false]) w := by kernel_rfl
theorem ta22_9 (v : Value) (w : World) : (Instr.typeAssert (.iface 22 v) 20 9 true).run Tryz.prog w = .ok (.tuple #[.string ⟨#[]⟩, .bool false]) w := by kernel_rfl
theorem ta22_4 (v : Value) (w : World) : (Instr.typeAssert (.iface 22 v) 20 4 true).run Tryz.prog w = .ok (.tuple #[.bool false, .bool false]) w := by kernel_rfl
theorem ta3_3 (v : Value) (w : World) : (Instr.typeAssert (.iface 3 v) 20 3 true).run Tryz.prog w = .ok (.tuple #[v, .bool true]) w := by kernel_rfl
theorem ta3_43 (v : Value) (w : World) : (Instr.typeAssert (.iface 3 v) 20 43 true).run Tryz.prog w = .ok (.tuple #[.float .f32 0, .bool false]) w := by kernel_rfl
theorem ta3_22 (v : Value) (w : World) : (Instr.typeAssert (.iface 3 v) 20 22 true).run Tryz.prog w = .ok (.tuple #[.float .f64 0, .bool false]) w := by kernel_rfl
theorem ta3_45 (v : Value) (w : World) : (Instr.typeAssert (.iface 3 v) 20 45 true).run Tryz.prog w = .ok (.tuple #[.int .i8 0, .bool false]) w := by kernel_rfl
theorem ta3_46 (v : Value) (w : World) : (Instr.typeAssert (.iface 3 v) 20 46 true).run Tryz.prog w = .ok (.tuple #[.int .i16 0, .bool false]) w := by kernel_rfl
theorem ta3_21 (v : Value) (w : World) : (Instr.typeAssert (.iface 3 v) 20 21 true).run Tryz.prog w = .ok (.tuple #[.int .i32 0, .bool false]) w := by kernel_rfl
theorem ta3_2 (v : Value) (w : World) : (Instr.typeAssert (.iface 3 v) 20 2 true).run Tryz.prog w = .ok (.tuple #[.int .i64 0, .bool false]) w := by kernel_rfl
theorem ta3_47 (v : Value) (w : World) : (Instr.typeAssert (.iface 3 v) 20 47 true).run Tryz.prog w = .ok (.tuple #[.int .u64 0, .bool false]) w := by kernel_rfl
theorem ta3_5 (v : Value) (w : World) : (Instr.typeAssert (.iface 3 v) 20 5 true).run Tryz.prog w = .ok (.tuple #[.int .u8 0, .bool false]) w := by kernel_rfl
theorem ta3_48 (v : Value) (w : World) : (Instr.typeAssert (.iface 3 v) 20 48 true).run Tryz.prog w = .ok (.tuple #[.int .u16 0, .bool false]) w := by kernel_rfl
theorem ta3_49 (v : Value) (w : World) : (Instr.typeAssert (.iface 3 v) 20 49 true).run Tryz.prog w = .ok (.tuple #[.int .u32 0, .bool false]) w := by kernel_rfl
theorem ta3_23 (v : Value) (w : World) : (Instr.typeAssert (.iface 3 v) 20 23 true).run Tryz.prog w = .ok (.tuple #[.int .u64 0, .bool false]) w := by kernel_rfl
theorem ta3_9 (v : Value) (w : World) : (Instr.typeAssert (.iface 3 v) 20 9 true).run Tryz.prog w = .ok (.tuple #[.string ⟨#[]⟩, .bool false]) w := by kernel_rfl
theorem ta3_58 (v : Value) (w : World) : (Instr.typeAssert (.iface 3 v) 20 58 true).run Tryz.prog w = .ok (.tuple #[.slice none 0 0, .bool false]) w := by kernel_rfl
theorem ta3_66 (v : Value) (w : World) : (Instr.typeAssert (.iface 3 v) 20 66 true).run Tryz.prog w = .ok (.tuple #[.slice none 0 0, .bool false]) w := by kernel_rfl
theorem ta3_29 (v : Value) (w : World) : (Instr.typeAssert (.iface 3 v) 20 29 true).run Tryz.prog w = .ok (.tuple #[.slice none 0 0, .bool false]) w := by kernel_rfl
theorem ta3_69 (v : Value) (w : World) : (Instr.typeAssert (.iface 3 v) 20 69 true).run Tryz.prog w = .ok (.tuple #[.slice none 0 0, .bool false]) w := by kernel_rfl
theorem ta3_71 (v : Value) (w : World) : (Instr.typeAssert (.iface 3 v) 20 71 true).run Tryz.prog w = .ok (.tuple #[.slice none 0 0, .bool false]) w := by kernel_rfl
theorem ta3_60 (v : Value) (w : World) : (Instr.typeAssert (.iface 3 v) 20 60 true).run Tryz.prog w = .ok (.tuple #[.agg #[.nilIface, .nilIface], .bool false]) w := by kernel_rfl
theorem ta3_4 (v : Value) (w : World) : (Instr.typeAssert (.iface 3 v) 20 4 true).run Tryz.prog w = .ok (.tuple #[.bool false, .bool false]) w := by kernel_rfl
theorem ta9_3 (v : Value) (w : World) : (Instr.typeAssert (.iface 9 v) 20 3 true).run Tryz.prog w = .ok (.tuple #[.int .i64 0, .bool false]) w := by kernel_rfl
theorem ta9_5 (v : Value) (w : World) : (Instr.typeAssert (.iface 9 v) 20 5 true).run Tryz.prog w = .ok (.tuple #[.int .u8 0, .bool false]) w := by kernel_rfl
theorem ta9_22 (v : Value) (w : World) : (Instr.typeAssert (.iface 9 v) 20 22 true).run Tryz.prog w = .ok (.tuple #[.float .f64 0, .bool false]) w := by kernel_rfl
theorem ta9_9 (v : Value) (w : World) : (Instr.typeAssert (.iface 9 v) 20 9 true).run Tryz.prog w = .ok (.tuple #[v, .bool true]) w := by kernel_rfl
theorem ta9_43 (v : Value) (w : World) : (Instr.typeAssert (.iface 9 v) 20 43 true).run Tryz.prog w = .ok (.tuple #[.float .f32 0, .bool false]) w := by kernel_rfl
theorem ta9_45 (v : Value) (w : World) : (Instr.typeAssert (.iface 9 v) 20 45 true).run Tryz.prog w = .ok (.tuple #[.int .i8 0, .bool false]) w := by kernel_rfl
theorem ta9_46 (v : Value) (w : World) : (Instr.typeAssert (.iface 9 v) 20 46 true).run Tryz.prog w = .ok (.tuple #[.int .i16 0, .bool false]) w := by kernel_rfl
theorem ta9_21 (v : Value) (w : World) : (Instr.typeAssert (.iface 9 v) 20 21 true).run Tryz.prog w = .ok (.tuple #[.int .i32 0, .bool false]) w := by kernel_rfl
theorem ta9_2 (v : Value) (w : World) : (Instr.typeAssert (.iface 9 v) 20 2 true).run Tryz.prog w = .ok (.tuple #[.int .i64 0, .bool false]) w := by kernel_rfl
theorem ta9_47 (v : Value) (w : World) : (Instr.typeAssert (.iface 9 v) 20 47 true).run Tryz.prog w = .ok (.tuple #[.int .u64 0, .bool false]) w := by kernel_rfl
theorem ta9_48 (v : Value) (w : World) : (Instr.typeAssert (.iface 9 v) 20 48 true).run Tryz.prog w = .ok (.tuple #[.int .u16 0, .bool false]) w := by kernel_rfl
theorem ta9_49 (v : Value) (w : World) : (Instr.typeAssert (.iface 9 v) 20 49 true).run Tryz.prog w = .ok (.tuple #[.int .u32 0, .bool false]) w := by kernel_rfl
theorem ta9_23 (v : Value) (w : World) : (Instr.typeAssert (.iface 9 v) 20 23 true).run Tryz.prog w = .ok (.tuple #[.int .u64 0, .bool false]) w := by kernel_rfl
attribute [local go_sem] ta22_43 ta22_22 ta22_3 ta22_5 ta22_9 ta22_4 ta3_3 ta3_43 ta3_22 ta3_45 ta3_46 ta3_21 ta3_2 ta3_47 ta3_5 ta3_48 ta3_49 ta3_23 ta3_9 ta3_58 ta3_66 ta3_29 ta3_69 ta3_71 ta3_60 ta3_4 ta9_3 ta9_5 ta9_22 ta9_9 ta9_43 ta9_45 ta9_46 ta9_21 ta9_2 ta9_47 ta9_48 ta9_49 ta9_23

set_option maxRecDepth 100000 in
set_option maxHeartbeats 400000 in
theorem given_float (n u : Int) (x : Nat) (s : ByteArray) (hs : s.size ≤ 2000) (b : Bool) (ks l : Value) (w : World) :
    Calls Tryz.prog 14 #[.agg #[.int .i64 12, .int .i64 n, .int .u64 u, .float .f64 x, .string s, .bool b, ks, l]] w fun e w' => e = .returned (.tuple #[.iface 22 (.float .f64 x), .bool true]) ∧ Below w.heap.size w w' := by
  have hsz : ¬ (2000 : Int) < s.size := by omega
  go_enter Tryz.func14, Tryz.ntmps14
  go_wp2
  go_returns
  exact ⟨rfl, by go_grown⟩

set_option maxRecDepth 100000 in
set_option maxHeartbeats 400000 in
theorem given_int (n u : Int) (x : Nat) (s : ByteArray) (hs : s.size ≤ 2000) (b : Bool) (ks l : Value) (w : World) :
    Calls Tryz.prog 14 #[.agg #[.int .i64 1, .int .i64 n, .int .u64 u, .float .f64 x, .string s, .bool b, ks, l]] w fun e w' => e = .returned (.tuple #[.iface 3 (.int .i64 n), .bool true]) ∧ Below w.heap.size w w' := by
  have hsz : ¬ (2000 : Int) < s.size := by omega
  go_enter Tryz.func14, Tryz.ntmps14
  go_wp2
  go_returns
  exact ⟨rfl, by go_grown⟩

set_option maxRecDepth 100000 in
set_option maxHeartbeats 400000 in
theorem given_text (n u : Int) (x : Nat) (s : ByteArray) (hs : s.size ≤ 2000) (b : Bool) (ks l : Value) (w : World) :
    Calls Tryz.prog 14 #[.agg #[.int .i64 13, .int .i64 n, .int .u64 u, .float .f64 x, .string s, .bool b, ks, l]] w fun e w' => e = .returned (.tuple #[.iface 9 (.string s), .bool true]) ∧ Below w.heap.size w w' := by
  have hsz : ¬ (2000 : Int) < s.size := by omega
  go_enter Tryz.func14, Tryz.ntmps14
  go_wp2
  go_returns
  exact ⟨rfl, by go_grown⟩

set_option maxHeartbeats 400000 in
theorem catch30 (a b : Addr) (w : World) :
    CallsD Tryz.prog 30 #[.pointer (some a), .pointer (some b)] .returning w fun e u' w' => e = .returned (.tuple #[]) ∧ u' = .returning ∧ w' = w := by
  refine callsD_of_wpS Tryz.func30 rfl fun c₀ cs hu => ?_
  apply wpS_seq
  apply wpS_region
  simp [wpOpsS, go_sem, recoverD, hu, Tryz.ntmps30, Exit.thenS]
  apply wpS_seq
  apply wpS_region
  simp [wpOpsS, go_sem, Exit.thenS]
  refine wpS_cond (t := false) (by simp [Act.eval, Array.replicate]) ?_
  simp only [Bool.false_eq_true, if_false]
  refine wpS_of_wp (wp_skip ?_)
  cases c₀
  simp_all [bodyPostS, results, Tryz.results30]

set_option maxRecDepth 100000 in
set_option maxHeartbeats 400000 in
theorem told_float (y : Nat) (w : World) :
    Calls Tryz.prog 15 #[.iface 22 (.float .f64 y)] w fun e w' => e = .returned (.tuple #[.agg #[.int .i64 12, .int .i64 0, .int .u64 0, .float .f64 y, .string ⟨#[]⟩, .bool false, .slice none 0 0, .slice none 0 0], .int .i64 0]) ∧ Below w.heap.size w w' := by
  have hmf : ∀ (fn : Fn) (first cap : Array Value) (w : World), (Instr.makeFunc fn first cap).run Tryz.prog w = .ok (.func fn first cap) w := fun _ _ _ _ => rfl
  go_enter_defers Tryz.func15, Tryz.ntmps15
  go_wp2
  refine leaves_cons (f := 30) (args := #[.pointer (some ⟨w.heap.size, 0, none⟩), .pointer (some ⟨w.heap.size + 1, 0, none⟩)]) (by simp) (by simp [go_sem]) ?_
  refine (catch30 _ _ _).mono ?_
  rintro e u' w'' ⟨rfl, rfl, rfl⟩
  simp [Leaves, settle, results, Tryz.results15, go_sem]
  go_grown

set_option maxRecDepth 100000 in
set_option maxHeartbeats 400000 in
theorem told_int (m : Int) (w : World) :
    Calls Tryz.prog 15 #[.iface 3 (.int .i64 m)] w fun e w' => e = .returned (.tuple #[.agg #[.int .i64 1, .int .i64 m, .int .u64 0, .float .f64 0, .string ⟨#[]⟩, .bool false, .slice none 0 0, .slice none 0 0], .int .i64 0]) ∧ Below w.heap.size w w' := by
  have hmf : ∀ (fn : Fn) (first cap : Array Value) (w : World), (Instr.makeFunc fn first cap).run Tryz.prog w = .ok (.func fn first cap) w := fun _ _ _ _ => rfl
  go_enter_defers Tryz.func15, Tryz.ntmps15
  go_wp2
  refine leaves_cons (f := 30) (args := #[.pointer (some ⟨w.heap.size, 0, none⟩), .pointer (some ⟨w.heap.size + 1, 0, none⟩)]) (by simp) (by simp [go_sem]) ?_
  refine (catch30 _ _ _).mono ?_
  rintro e u' w'' ⟨rfl, rfl, rfl⟩
  simp [Leaves, settle, results, Tryz.results15, go_sem]
  go_grown

set_option maxRecDepth 100000 in
set_option maxHeartbeats 400000 in
theorem told_text (t : ByteArray) (w : World) :
    Calls Tryz.prog 15 #[.iface 9 (.string t)] w fun e w' => e = .returned (.tuple #[.agg #[.int .i64 13, .int .i64 0, .int .u64 0, .float .f64 0, .string t, .bool false, .slice none 0 0, .slice none 0 0], .int .i64 0]) ∧ Below w.heap.size w w' := by
  have hmf : ∀ (fn : Fn) (first cap : Array Value) (w : World), (Instr.makeFunc fn first cap).run Tryz.prog w = .ok (.func fn first cap) w := fun _ _ _ _ => rfl
  go_enter_defers Tryz.func15, Tryz.ntmps15
  go_wp2
  refine leaves_cons (f := 30) (args := #[.pointer (some ⟨w.heap.size, 0, none⟩), .pointer (some ⟨w.heap.size + 1, 0, none⟩)]) (by simp) (by simp [go_sem]) ?_
  refine (catch30 _ _ _).mono ?_
  rintro e u' w'' ⟨rfl, rfl, rfl⟩
  simp [Leaves, settle, results, Tryz.results15, go_sem]
  go_grown

/-- the two results' variables stand as they were laid -/
theorem out_kept {w w2 : World} {A : Obj} (hb : Below (((w.alloc A).alloc (.cells #[.int .i64 0, .int .i64 0, .int .u64 0, .float .f64 0, .string ⟨#[]⟩, .bool false, .slice none 0 0, .slice none 0 0] 26)).alloc (.cells #[.int .i64 0] 3)).heap.size (((w.alloc A).alloc (.cells #[.int .i64 0, .int .i64 0, .int .u64 0, .float .f64 0, .string ⟨#[]⟩, .bool false, .slice none 0 0, .slice none 0 0] 26)).alloc (.cells #[.int .i64 0] 3)) w2) :
    w2.cell? ⟨w.heap.size + 1, 0, none⟩ = some (.int .i64 0) ∧ w2.cell? ⟨w.heap.size + 1, 1, none⟩ = some (.int .i64 0) ∧ w2.cell? ⟨w.heap.size + 1, 2, none⟩ = some (.int .u64 0) ∧ w2.cell? ⟨w.heap.size + 1, 3, none⟩ = some (.float .f64 0) ∧ w2.cell? ⟨w.heap.size + 1, 4, none⟩ = some (.string ⟨#[]⟩) ∧ w2.cell? ⟨w.heap.size + 1, 5, none⟩ = some (.bool false) ∧ w2.cell? ⟨w.heap.size + 1, 6, none⟩ = some (.slice none 0 0) ∧ w2.cell? ⟨w.heap.size + 1, 7, none⟩ = some (.slice none 0 0) ∧ w2.frozen? ⟨w.heap.size + 1, 0, none⟩ = false ∧ w2.frozen? ⟨w.heap.size + 1, 1, none⟩ = false ∧ w2.frozen? ⟨w.heap.size + 1, 2, none⟩ = false ∧ w2.frozen? ⟨w.heap.size + 1, 3, none⟩ = false ∧ w2.frozen? ⟨w.heap.size + 1, 4, none⟩ = false ∧ w2.frozen? ⟨w.heap.size + 1, 5, none⟩ = false ∧ w2.frozen? ⟨w.heap.size + 1, 6, none⟩ = false ∧ w2.frozen? ⟨w.heap.size + 1, 7, none⟩ = false ∧ w2.cell? ⟨w.heap.size + 1 + 1, 0, none⟩ = some (.int .i64 0) ∧ w2.frozen? ⟨w.heap.size + 1 + 1, 0, none⟩ = false := by
  refine ⟨?_, ?_, ?_, ?_, ?_, ?_, ?_, ?_, ?_, ?_, ?_, ?_, ?_, ?_, ?_, ?_, ?_, ?_⟩
  · rw [hb.cell (by simp)]; simp [go_sem]
  · rw [hb.cell (by simp)]; simp [go_sem]
  · rw [hb.cell (by simp)]; simp [go_sem]
  · rw [hb.cell (by simp)]; simp [go_sem]
  · rw [hb.cell (by simp)]; simp [go_sem]
  · rw [hb.cell (by simp)]; simp [go_sem]
  · rw [hb.cell (by simp)]; simp [go_sem]
  · rw [hb.cell (by simp)]; simp [go_sem]
  · rw [hb.frozen (by simp)]; simp [go_sem]
  · rw [hb.frozen (by simp)]; simp [go_sem]
  · rw [hb.frozen (by simp)]; simp [go_sem]
  · rw [hb.frozen (by simp)]; simp [go_sem]
  · rw [hb.frozen (by simp)]; simp [go_sem]
  · rw [hb.frozen (by simp)]; simp [go_sem]
  · rw [hb.frozen (by simp)]; simp [go_sem]
  · rw [hb.frozen (by simp)]; simp [go_sem]
  · rw [hb.cell (by simp)]; simp [go_sem]
  · rw [hb.frozen (by simp)]; simp [go_sem]

theorem out_below {w w2 : World} {A : Obj} (hb : Below (((w.alloc A).alloc (.cells #[.int .i64 0, .int .i64 0, .int .u64 0, .float .f64 0, .string ⟨#[]⟩, .bool false, .slice none 0 0, .slice none 0 0] 26)).alloc (.cells #[.int .i64 0] 3)).heap.size (((w.alloc A).alloc (.cells #[.int .i64 0, .int .i64 0, .int .u64 0, .float .f64 0, .string ⟨#[]⟩, .bool false, .slice none 0 0, .slice none 0 0] 26)).alloc (.cells #[.int .i64 0] 3)) w2) : Below w.heap.size w w2 :=
  Below.trans (((((Below.refl _ w).alloc (Nat.le_refl _) _).alloc (by simp) _).alloc (by simp; omega) _)) (hb.mono (by simp; omega))
end Go.Proofs.YthmogfjmngbamaaGreatDoor
