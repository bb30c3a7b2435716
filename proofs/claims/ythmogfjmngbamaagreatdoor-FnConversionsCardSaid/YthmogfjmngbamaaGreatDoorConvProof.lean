/- For every int64 and every float: laws.FnConversions returns true, and its arguments read as they did; no condition but what the row lists of package-level variables, which the card ties to the program's text. -/
import Derived.Test.YthmogfjmngbamaaGreatDoorTie
import Derived.Test.YthmogfjmngbamaaGreatDoorCards
import Derived.Test.YthmogfjmngbamaaGreatDoorConvLaw
import Derived.Test.YthmogfjmngbamaaGreatDoorFlo4
import Derived.ProofKit
import Derived.OpenShut
import Derived.LaidMore
import Derived.Lay
import Derived.Lib.LaidTab
import Derived.SevenTiedAt
import Derived.Stop.LaidErr
import Derived.Stop.Joined
namespace Go.Proofs.YthmogfjmngbamaaGreatDoor
open Go.ChangeShapes Go.WideShapes Go.ChangeAt Go.RowKit

theorem conv_own : ownKnob Tryz.prog.godebug = none := by kernel_rfl

/-- a whole number of 64 bits as a float is a number -/
theorem float_self (n : Int) (h0 : -9223372036854775808 ≤ n) (h1 : n ≤ 9223372036854775807) : (FloatKind.f64.format.order (floatOfInt .f64 n) (floatOfInt .f64 n) != some .eq) = false := by
  have hlim : n.natAbs * Flo.U < 2 ^ Flo.L := by
    have hn : n.natAbs < 2 ^ 64 := by omega
    have : n.natAbs * Flo.U < 2 ^ 64 * Flo.U := Nat.mul_lt_mul_of_pos_right hn Flo.U_pos
    rw [Flo.U_pow, ← Nat.pow_add] at this
    rw [Flo.U_pow]
    have e1 := Flo.E_eq
    have e2 := Flo.L_eq
    exact Nat.lt_trans this (Nat.pow_lt_pow_right (by omega) (by omega))
  obtain ⟨K, a, hr, _⟩ := Flo.nearest_reads (decide (n < 0)) n.natAbs Flo.E (n.natAbs * Flo.U) (by rw [Flo.U_pow]) hlim
  have e : ((Flo.E : Nat) : Int) - 1074 = 0 := by rw [Flo.E_eq]; decide
  rw [e] at hr
  have hv : Flo.Val (floatOfInt .f64 n) _ := ⟨_, _, hr, rfl⟩
  exact Flo.ord_same hv hv

/-- THE LAW, AT EVERY NUMBER AND EVERY WORD. -/
theorem conv_all (n : Int) (h0 : -9223372036854775808 ≤ n) (h1 : n ≤ 9223372036854775807) (x : Nat) (hx : x < 18446744073709551616) (w : World)
    (hT : Lib.TabIs Tryz.prog w "internal/strconv.uint64pow10" .u64 Lib.pow10Tab) :
    Calls Tryz.prog 4 #[.int .i64 n, .float .f64 x] w fun e w' => e = .returned (.bool true) ∧ Below w.heap.size w w' := by
  refine conv_law n h0 h1 x (float_self n h0 h1) w hT ?_
  intro g1 g2
  obtain ⟨_, _, m, _, _, _, _, _, _, _, _, _, _, F⟩ := Flo.facts x hx g1 g2
  refine ⟨⟨m, F.int⟩, ?_⟩
  obtain ⟨s, r, hxw, hr, _⟩ := Flo.bounded x hx g1 g2
  have hv : Flo.Val x _ := ⟨_, _, by rw [hxw]; exact Flo.reads_of_rung s r hr, rfl⟩
  rw [Flo.ord_eq hv hv]
  exact decide_eq_true rfl

/-- THE TABLE, OUT OF WHAT THE ROW LISTS. -/
theorem conv_tab {W : World} (h : laidMetH Tryz.prog Rows.fnConversionsRow.laid W) : Lib.TabIs Tryz.prog W "internal/strconv.uint64pow10" .u64 Lib.pow10Tab := by
  rw [MakeChecks.laidMetH_plain _ _ _ (by kernel_rfl)] at h
  have h8 := h.tail.tail.tail.tail.tail.tail.tail.tail
  have e : (Rows.laid_internal_strconv_uint64pow10 : DataW Unit) = Lib.tabData .u64 Lib.pow10Tab := by kernel_rfl
  rw [e] at h8
  exact Lib.tabIs_of_head (g := 9) (t := 202) (e := 23) (n := 20) (by kernel_rfl) (by kernel_rfl) Tryz.underlying202 Tryz.underlying23 (by kernel_rfl) (by kernel_rfl) h8

set_option maxRecDepth 100000 in
theorem conv_lifted (os : Os) (started : os.Started) (H : Type) (enc : TypeId × Value → H) :
    ReturnsInHanded {} Tryz.checked os 4 .any (fun w args => (Rows.fnConversionsSpec.pre enc Tryz.prog Tryz.f4 Rows.fnConversionsRow.domain false w args ∧ laidMetH Tryz.prog Rows.fnConversionsRow.laid w) ∧ sizedMet enc Tryz.prog Tryz.f4 (OpenSpec.ofChange Rows.fnConversionsSpec) false w args)
      (Rows.fnConversionsSpec.post enc Tryz.prog Tryz.f4 false true false false) := by
  refine returnsInHanded_of_change_and (C := Tryz.checked) (X := fun w _ => laidMetH Tryz.prog Rows.fnConversionsRow.laid w) (fun _ _ _ hh h => h.of_heap hh) conv_own started (by kernel_rfl) Tryz.func4
    (ChangeSpec.witness_shaped (enc := enc) (C := Tryz.checked) (os := os) (X := fun w _ => laidMetH Tryz.prog Rows.fnConversionsRow.laid w) false (World.laidAll Tryz.prog os Rows.fnConversionsRow.laid) #[.int .i64 0, .float .f64 0] 8 (World.laidAll_os _ _ _)
      (World.shaped_of_ZipB (by kernel_rfl) (by kernel_rfl)) (by kernel_rfl) (by kernel_rfl) (by kernel_rfl)
      (by rw [MakeChecks.laidMetH_plain _ _ _ (by kernel_rfl)]; exact laidMet_laidAll _ (by kernel_rfl) (by kernel_rfl))) ?_
  intro W base args ds gs before hval0 hW _ _ hL _
  have hval : ∀ (j : Nat) t v, Tryz.f4.params[j]? = some t → args[j]? = some v → Value.okWide Tryz.prog W .any base t v := hval0
  have hW' := hW
  obtain ⟨p, q, hA0, hV, rfl, _, _⟩ := hW
  have hA : DataW.TrodAll enc Tryz.prog W 0 (fun _ => true) true Tryz.f4.params.toList args.toList ds p := hA0
  rw [Tryz.params4] at hA hval
  obtain ⟨v0, v1, d0, d1, p0, p1, rfl, rfl, rfl, hp0, hp1⟩ := trodAll_two hA
  obtain ⟨rfl, rfl⟩ := trodVars_none hV
  obtain ⟨n, rfl, rfl, rfl, wn⟩ := open_int Tryz.underlying2 (hval 0 2 v0 rfl rfl) hp0
  obtain ⟨x, rfl, rfl, rfl, wx⟩ := open_float Tryz.underlying22 (hval 1 22 v1 rfl rfl) hp1
  clear hA0 hval0
  simp only [List.append_nil] at hW'
  have hx : x < 18446744073709551616 := by
    have := wx
    simp only [Lit.wf, decide_eq_true_eq] at this
    have e : (18446744073709551616 : Nat) = 2 ^ 64 := by decide
    rw [e]; exact this
  have hn : -9223372036854775808 ≤ n ∧ n ≤ 9223372036854775807 := by
    have := wn
    have e1 : IntKind.i64.min = -9223372036854775808 := rfl
    have e2 : IntKind.i64.max = 9223372036854775807 := rfl
    simp [Lit.wf, e1, e2] at this
    omega
  refine (conv_all n hn.1 hn.2 x hx W (conv_tab hL)).mono fun e W' ⟨he, hnx⟩ => ?_
  subst he
  refine ⟨_, rfl, _, _, _, [], [], [], hW', ?_, ?_, rfl, hnx.frame _, fun h => by cases h⟩
  · exact trodAll_mk1 (shut_bool Tryz.underlying4 _)
  · exact trodAll_mk2 (shut_int Tryz.underlying2 wn) (shut_float Tryz.underlying22 wx)

theorem conv_holds : Rows.FnConversionsSaid :=
  OpenClaim.holds_of_wide 4 Tryz.f4 rfl rfl rfl rfl rfl rfl rfl ⟨rfl, rfl, rfl, rfl, rfl⟩ rfl rfl rfl rfl rfl (by kernel_rfl) Tryz.func4 (by kernel_rfl)
    (of_decide_eq_true (by kernel_rfl)) (by unfold Func.isWrapper; first | (rw [if_pos (by decide +kernel)]; kernel_rfl) | (rw [if_neg (by decide +kernel)]; exact ⟨rfl, rfl⟩))
    (fun os started H enc _ => conv_lifted os started H enc)

theorem fnConversions_card_holds : Rows.FnConversionsCardSaid :=
  Claim7.holds_tied_plain_at .later [] [.data, .data, .widerDeep, .widerDeep, .data, .data, .data, .data, .data, .sentinel, .sentinel, .pinned, .pinned] true (true, "9c03b456bcd54046303eb146513fbc6de6677cf855b66e4ce209f383b1626f3a") true
    conv_holds (fun _ h => by cases h) (by kernel_rfl) (fun _ h => by cases h) fnConversions_row_tie rfl ⟨rfl, rfl⟩ (by kernel_rfl) rfl
    (fun f fn hf hfn => by
      obtain rfl : f = 4 := Option.some.inj ((show Tryz.prog.funcNamed "given.example/pub-cucurbit/laws.FnConversions" = some 4 by kernel_rfl).symm.trans hf) |>.symm
      obtain rfl : fn = Tryz.f4 := (Option.some.inj (Tryz.func4.symm.trans hfn)).symm
      exact ⟨by kernel_rfl, fun j t ht => by
        rw [Tryz.params4] at ht
        have hm : t ∈ [2, 22] := by simpa using Array.mem_of_getElem? ht
        have hall : ([2, 22].all fun u => !Tryz.prog.wantsStandIn u) = true := by kernel_rfl
        exact (show Tryz.prog.wantsStandIn t = false by simpa using List.all_eq_true.1 hall t hm)⟩)
    (by kernel_rfl)
#print axioms fnConversions_card_holds
end Go.Proofs.YthmogfjmngbamaaGreatDoor
