/-
THE ROW AND THE TIED CARD of laws.FnGcd, off the walked law. Written by gencard.py after the worked proof 'PinupProofs'.
-/
import Derived.Test.YtelkomojcohfcaaGreatDoorFacts
import Derived.Test.YtelkomojcohfcaaGreatDoorLGcd
import Derived.Test.YtelkomojcohfcaaGreatDoorLists
import Derived.ProofKit
import Derived.OpenShut
import Derived.LaidMore
import Derived.Lay
import Derived.SevenTiedAt
import Derived.Stop.Joined
namespace Go.Proofs.YtelkomojcohfcaaGreatDoor.fnGcd
open Go.ChangeShapes Go.WideShapes Go.ChangeAt Go.RowKit
set_option linter.unusedVariables false

set_option maxRecDepth 100000 in
theorem lifted (os : Os) (started : os.Started) (H : Type) (enc : TypeId × Value → H) :
    ReturnsInHanded {} Tryz.checked os 3 .any (fun w args => (Rows.fnGcdSpec.pre enc Tryz.prog Tryz.f3 Rows.fnGcdRow.domain false w args ∧ laidMetH Tryz.prog Rows.fnGcdRow.laid w) ∧ sizedMet enc Tryz.prog Tryz.f3 (OpenSpec.ofChange Rows.fnGcdSpec) false w args)
      (Rows.fnGcdSpec.post enc Tryz.prog Tryz.f3 false true false false) := by
  refine returnsInHanded_of_change_and (C := Tryz.checked) (X := fun w _ => laidMetH Tryz.prog Rows.fnGcdRow.laid w) (fun _ _ _ hh h => h.of_heap hh) own started (by kernel_rfl) Tryz.func3
    (ChangeSpec.witness_shaped (enc := enc) (C := Tryz.checked) (os := os) (X := fun w _ => laidMetH Tryz.prog Rows.fnGcdRow.laid w) false (World.laidAll Tryz.prog os Rows.fnGcdRow.laid) #[.slice none 0 0] 8 (World.laidAll_os _ _ _)
      (World.shaped_of_ZipB (by kernel_rfl) (by kernel_rfl)) (by kernel_rfl) (by kernel_rfl) (by kernel_rfl)
      (by rw [MakeChecks.laidMetH_plain _ _ _ (by kernel_rfl)]; exact laidMet_laidAll _ (by kernel_rfl) (by kernel_rfl))) ?_
  intro W base args ds gs before hval0 hW hc _ hL _
  have hval : ∀ (j : Nat) t v, Tryz.f3.params[j]? = some t → args[j]? = some v → Value.okWide Tryz.prog W .any base t v := hval0
  have hW' := hW
  obtain ⟨p, q, hA0, hV, rfl, _, _⟩ := hW
  have hA : DataW.TrodAll enc Tryz.prog W 0 (fun _ => true) true Tryz.f3.params.toList args.toList ds p := hA0
  rw [Tryz.params3] at hA hval
  obtain ⟨v0, d0, rfl, rfl, h0⟩ := trodAll_one hA
  obtain ⟨rfl, rfl⟩ := trodVars_none hV
  obtain ⟨a0, n0, c0, rfl⟩ := okWide_slice Tryz.underlying22 (hval 0 22 v0 rfl rfl)
  obtain ⟨x0, hr0⟩ := row_ints h0
  simp only [List.append_nil] at hW'
  refine (law_Gcd x0 (.slice a0 n0 c0) W hr0).mono fun e W' ⟨he, hb⟩ => ?_
  subst he
  exact ⟨_, rfl, _, _, _, [], p, [], hW', trodAll_mk1 (shut_bool Tryz.underlying4 _), trodAll_mk1 (trod_again (of_decide_eq_true (by kernel_rfl)) hb h0), rfl, hb.frame _, fun h => by cases h⟩

theorem k1 : Rows.fnGcdRow.wf (OpenSpec.ofChange Rows.fnGcdSpec) = true := by kernel_rfl
theorem k4 : Tryz.f3.params.all (Tryz.prog.readableRec ·) = true := by kernel_rfl
theorem k5 : namedTie Tryz.prog Rows.fnGcdRow.named Rows.fnGcdSpec.vars = true := by kernel_rfl
theorem k6 : (Rows.fnGcdRow.stops == []) = true := by kernel_rfl
theorem k8 : (Rows.fnGcdRow.knobs == []) = true := by kernel_rfl
theorem k10 : (Rows.fnGcdRow.inPlace == Tryz.prog.inPlace 3) = true := by kernel_rfl
theorem k11 : (Rows.fnGcdRow.unfollowed == Tryz.prog.unfollowed 3) = true := by kernel_rfl
theorem k12 : (Rows.fnGcdRow.recurses == Tryz.prog.recurses 3) = true := by kernel_rfl
theorem k13 : (Rows.fnGcdRow.named == Tryz.prog.varsNamed 3) = true := by kernel_rfl
theorem k14 : (Rows.fnGcdRow.maps == (Tryz.f3.params.toList ++ Rows.fnGcdSpec.plain.varTypes Tryz.prog).any (Tryz.prog.mapsRec ·)) = true := by kernel_rfl
theorem k15 : (Rows.fnGcdRow.ifaces == (Tryz.f3.params.toList ++ Rows.fnGcdSpec.plain.varTypes Tryz.prog).any (Tryz.prog.ifacesRec ·)) = true := by kernel_rfl
theorem k16 : (Rows.fnGcdRow.mapsOut == Tryz.prog.mapsAmong Tryz.f3.resultTypes.toList) = true := by kernel_rfl
theorem k17 : (Rows.fnGcdRow.loops == (Tryz.f3.params.toList ++ Rows.fnGcdSpec.plain.varTypes Tryz.prog).any (Tryz.prog.loopsFrom ·)) = true := by kernel_rfl
theorem k17b : (Rows.fnGcdRow.wideKeys == (Tryz.f3.params.toList ++ Rows.fnGcdSpec.plain.varTypes Tryz.prog ++ Tryz.f3.resultTypes.toList).any (Tryz.prog.wideKeysFrom ·)) = true := by kernel_rfl
theorem k18 : Rows.fnGcdSpec.vars.all (Tryz.prog.varReadable ·) = true := by kernel_rfl
theorem k19 : Tryz.f3.resultTypes.all (fun t => Tryz.prog.readableRec t && decide (t < Tryz.prog.types.size)) = true := by kernel_rfl
theorem k20 : (Rows.fnGcdRow.ifacesOut == Tryz.f3.resultTypes.toList.any (Tryz.prog.ifacesRec ·)) = true := by kernel_rfl
theorem k21 : (Rows.fnGcdRow.loopsOut == Tryz.f3.resultTypes.toList.any (Tryz.prog.loopsFrom ·)) = true := by kernel_rfl
theorem k22 : (Rows.fnGcdRow.plainKeys == Tryz.prog.plainKeys) = true := by kernel_rfl
theorem k23 : Rows.fnGcdRow.shortTexts.isNone = true := by kernel_rfl
theorem k24b : (Rows.fnGcdRow.lifted == Tryz.prog.liftsFinal) = true := by kernel_rfl
theorem k24c : (Tryz.prog.make == some Rows.fnGcdRow.make) = true := by kernel_rfl
theorem k25 : kindsFact Tryz.prog Tryz.f3 Rows.fnGcdRow = true := by kernel_rfl
theorem k26 : (Rows.fnGcdRow.pinned == Rows.fnGcdRow.pinnedBy) = true := by kernel_rfl
theorem k27 : (Rows.fnGcdRow.veiled == (Tryz.f3.params.toList ++ Rows.fnGcdSpec.plain.varTypes Tryz.prog ++ Tryz.f3.resultTypes.toList).any (Tryz.prog.veiledRec ·)) = true := by kernel_rfl
theorem k28 : Rows.fnGcdRow.veiledFits Tryz.prog Tryz.f3.params.toList (Tryz.f3.params.toList ++ Rows.fnGcdSpec.plain.varTypes Tryz.prog ++ Tryz.f3.resultTypes.toList) = true := by kernel_rfl
theorem closed : joinedFacts Tryz.prog 3 Tryz.f3 Rows.fnGcdSpec Rows.fnGcdRow = true :=
  joined_of k1 fa_laidOut fa_mapsRowed k4 k5 k6 fa_stops k8 fa_stopKnobs k10 k11 k12 k13 k14 k15 k16 k17 k17b k18 k19 k20 k21 k22 k23 fa_heard fa_mayEnter k24b k24c k25 k26 k27 k28

theorem fnamed : Tryz.prog.funcNamed "pub-tallysheet/laws.FnGcd" = some 3 := by kernel_rfl
theorem wrapper : Tryz.f3.isWrapper Tryz.prog Rows.fnGcdRow.wrapper Rows.fnGcdRow.mainSum := by
  unfold Func.isWrapper; first | (rw [if_pos (by decide +kernel)]; kernel_rfl) | (rw [if_neg (by decide +kernel)]; exact ⟨rfl, rfl⟩)
theorem holds : Rows.FnGcdSaid :=
  OpenClaim.holds_of_wide 3 Tryz.f3 rfl rfl rfl rfl rfl rfl rfl ⟨rfl, rfl, rfl, rfl, rfl⟩ rfl rfl rfl rfl rfl fnamed Tryz.func3 closed
    (of_decide_eq_true (by kernel_rfl)) wrapper
    (fun os started H enc _ => lifted os started H enc)

theorem byText : Rows.fnGcdRow.wfByText (OpenSpec.ofChange Rows.fnGcdSpec) = true := by kernel_rfl
theorem mainIs : Tryz.pinned.checked.prog.mainIs = some (true, "9c2c5484249338b20aded97baf6c0c4a392feed3c48d8c8557cd24bbb1d397cb".toList) := by kernel_rfl
theorem looks : true = Tryz.prog.looks [] := by kernel_rfl
theorem goes : false = Rows.fnGcdRow.goesBy Tryz.prog := by kernel_rfl
theorem plain : ([22].all fun u => !Tryz.prog.wantsStandIn u) = true := by kernel_rfl

/-- ████ THE STATEMENT: THE TIED CARD ████ -/
theorem card : Rows.FnGcdCardSaid :=
  Claim7.holds_tied_plain_at .later [] [.data, .data, .widerDeep, .widerDeep, .data, .data, .data, .data, .data, .sentinel, .sentinel, .pinned, .pinned] true (true, "9c2c5484249338b20aded97baf6c0c4a392feed3c48d8c8557cd24bbb1d397cb") true holds (fun _ h => by cases h) byText (fun _ h => by cases h) fnGcd_row_tie rfl ⟨rfl, rfl⟩ mainIs rfl
    (fun f fn hf hfn => by
      obtain rfl : f = 3 := Option.some.inj (fnamed.symm.trans hf) |>.symm
      obtain rfl : fn = Tryz.f3 := (Option.some.inj (Tryz.func3.symm.trans hfn)).symm
      exact ⟨looks, fun j t ht => by
        rw [Tryz.params3] at ht
        have hm : t ∈ [22] := by simpa using Array.mem_of_getElem? ht
        exact (show Tryz.prog.wantsStandIn t = false by simpa using List.all_eq_true.1 plain t hm)⟩)
    goes
#print axioms card
end Go.Proofs.YtelkomojcohfcaaGreatDoor.fnGcd
