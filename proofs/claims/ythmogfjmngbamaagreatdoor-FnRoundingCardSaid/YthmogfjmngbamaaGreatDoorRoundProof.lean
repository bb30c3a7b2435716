/- For every float: laws.FnRounding returns true, and its argument reads as it did; no condition but what the row lists of package-level variables, which the card ties to the program's text. -/
import Derived.Test.YthmogfjmngbamaaGreatDoorTie
import Derived.Test.YthmogfjmngbamaaGreatDoorCards
import Derived.Test.YthmogfjmngbamaaGreatDoorRoundLaw
import Derived.Test.YthmogfjmngbamaaGreatDoorFlo4
import Derived.ProofKit
import Derived.OpenShut
import Derived.LaidMore
import Derived.Lay
import Derived.SevenTiedAt
import Derived.Stop.Joined
namespace Go.Proofs.YthmogfjmngbamaaGreatDoor
open Go.ChangeShapes Go.WideShapes Go.ChangeAt Go.RowKit

theorem round_own : ownKnob Tryz.prog.godebug = none := by kernel_rfl

/-- THE LAW, AT EVERY WORD. -/
theorem round_all (x : Nat) (hx : x < 18446744073709551616) (w : World) :
    Calls Tryz.prog 3 #[.float .f64 x] w fun e w' => e = .returned (.bool true) ∧ Below w.heap.size w w' := by
  by_cases h1 : (FloatKind.f64.format.order x 4832362400168542208 == some .lt || FloatKind.f64.format.order x 4832362400168542208 == some .eq) = true
  · by_cases h2 : (FloatKind.f64.format.order x 14055734437023318016 == some .gt || FloatKind.f64.format.order x 14055734437023318016 == some .eq) = true
    · obtain ⟨⟨s, m, i, hd⟩, ⟨o, ho⟩, n, lo, hi, ne, d1, d2, b1, b2, b3, b4, b5, F⟩ := Flo.facts x hx h1 h2
      exact law_a x s m i hd hx h1 h2 n lo hi ne d1 d2 (Flo.maxW x) b1 b2 b3 b4 b5
        (fun w => run_convert_float_int w 22 3 .f64 .i64 x n (by rw [Tryz.underlying22]; rfl) Tryz.underlying3 F.int)
        F.g1 F.hlo F.hs1 F.g2 F.hhi F.hs2 F.hd1 F.hd2 F.g3 F.g4 F.g5 F.hne (fun ts t w => Flo.run_max_word x o ho ts t w) F.q1 F.q2 F.q3 F.q4 w
    · exact law_out2 x h1 (by simpa using h2) w
  · exact law_out1 x (by simpa using h1) w

set_option maxRecDepth 100000 in
theorem round_lifted (os : Os) (started : os.Started) (H : Type) (enc : TypeId × Value → H) :
    ReturnsInHanded {} Tryz.checked os 3 .any (fun w args => (Rows.fnRoundingSpec.pre enc Tryz.prog Tryz.f3 Rows.fnRoundingRow.domain false w args ∧ laidMetH Tryz.prog Rows.fnRoundingRow.laid w) ∧ sizedMet enc Tryz.prog Tryz.f3 (OpenSpec.ofChange Rows.fnRoundingSpec) false w args)
      (Rows.fnRoundingSpec.post enc Tryz.prog Tryz.f3 false true false false) := by
  refine returnsInHanded_of_change_and (C := Tryz.checked) (X := fun w _ => laidMetH Tryz.prog Rows.fnRoundingRow.laid w) (fun _ _ _ hh h => h.of_heap hh) round_own started (by kernel_rfl) Tryz.func3
    (ChangeSpec.witness_shaped (enc := enc) (C := Tryz.checked) (os := os) (X := fun w _ => laidMetH Tryz.prog Rows.fnRoundingRow.laid w) false (World.laidAll Tryz.prog os Rows.fnRoundingRow.laid) #[.float .f64 0] 8 (World.laidAll_os _ _ _)
      (World.shaped_of_ZipB (by kernel_rfl) (by kernel_rfl)) (by kernel_rfl) (by kernel_rfl) (by kernel_rfl)
      (by rw [MakeChecks.laidMetH_plain _ _ _ (by kernel_rfl)]; exact laidMet_laidAll _ (by kernel_rfl) (by kernel_rfl))) ?_
  intro W base args ds gs before hval0 hW _ _ _ _
  have hval : ∀ (j : Nat) t v, Tryz.f3.params[j]? = some t → args[j]? = some v → Value.okWide Tryz.prog W .any base t v := hval0
  have hW' := hW
  obtain ⟨p, q, hA0, hV, rfl, _, _⟩ := hW
  have hA : DataW.TrodAll enc Tryz.prog W 0 (fun _ => true) true Tryz.f3.params.toList args.toList ds p := hA0
  rw [Tryz.params3] at hA hval
  obtain ⟨v0, d0, rfl, rfl, h0⟩ := trodAll_one hA
  obtain ⟨rfl, rfl⟩ := trodVars_none hV
  obtain ⟨x, rfl, rfl, rfl, wx⟩ := open_float Tryz.underlying22 (hval 0 22 v0 rfl rfl) h0
  clear hA0 hval0
  simp only [List.append_nil] at hW'
  have hx : x < 18446744073709551616 := by
    have := wx
    simp only [Lit.wf, decide_eq_true_eq] at this
    have e : (18446744073709551616 : Nat) = 2 ^ 64 := by decide
    rw [e]; exact this
  refine (round_all x hx W).mono fun e W' ⟨he, hnx⟩ => ?_
  subst he
  refine ⟨_, rfl, _, _, _, [], [], [], hW', ?_, ?_, rfl, hnx.frame _, fun h => by cases h⟩
  · exact trodAll_mk1 (shut_bool Tryz.underlying4 _)
  · exact trodAll_mk1 (shut_float Tryz.underlying22 wx)

theorem round_holds : Rows.FnRoundingSaid :=
  OpenClaim.holds_of_wide 3 Tryz.f3 rfl rfl rfl rfl rfl rfl rfl ⟨rfl, rfl, rfl, rfl, rfl⟩ rfl rfl rfl rfl rfl (by kernel_rfl) Tryz.func3 (by kernel_rfl)
    (of_decide_eq_true (by kernel_rfl)) (by unfold Func.isWrapper; first | (rw [if_pos (by decide +kernel)]; kernel_rfl) | (rw [if_neg (by decide +kernel)]; exact ⟨rfl, rfl⟩))
    (fun os started H enc _ => round_lifted os started H enc)

theorem fnRounding_card_holds : Rows.FnRoundingCardSaid :=
  Claim7.holds_tied_plain_at .later [] [.data, .data, .widerDeep, .widerDeep, .data, .data, .data, .data, .data, .sentinel, .sentinel, .pinned, .pinned] true (true, "9c03b456bcd54046303eb146513fbc6de6677cf855b66e4ce209f383b1626f3a") true
    round_holds (fun _ h => by cases h) (by kernel_rfl) (fun _ h => by cases h) fnRounding_row_tie rfl ⟨rfl, rfl⟩ (by kernel_rfl) rfl
    (fun f fn hf hfn => by
      obtain rfl : f = 3 := Option.some.inj ((show Tryz.prog.funcNamed "given.example/pub-cucurbit/laws.FnRounding" = some 3 by kernel_rfl).symm.trans hf) |>.symm
      obtain rfl : fn = Tryz.f3 := (Option.some.inj (Tryz.func3.symm.trans hfn)).symm
      exact ⟨by kernel_rfl, fun j t ht => by
        rw [Tryz.params3] at ht
        have hm : t ∈ [22] := by simpa using Array.mem_of_getElem? ht
        have hall : ([22].all fun u => !Tryz.prog.wantsStandIn u) = true := by kernel_rfl
        exact (show Tryz.prog.wantsStandIn t = false by simpa using List.all_eq_true.1 hall t hm)⟩)
    (by kernel_rfl)
#print axioms fnRounding_card_holds
end Go.Proofs.YthmogfjmngbamaaGreatDoor
