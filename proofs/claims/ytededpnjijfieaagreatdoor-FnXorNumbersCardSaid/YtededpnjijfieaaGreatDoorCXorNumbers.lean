/-
THE ROW AND THE TIED CARD of laws.FnXorNumbers, off the walked law. Written by gencard.py after the worked proof 'PinupProofs'.
-/
import Derived.Test.YtededpnjijfieaaGreatDoorFacts
import Derived.Test.YtededpnjijfieaaGreatDoorLXor
import Derived.Test.YtededpnjijfieaaGreatDoorLists
import Derived.ProofKit
import Derived.OpenShut
import Derived.LaidMore
import Derived.Lay
import Derived.SevenTiedAt
import Derived.Stop.Joined
namespace Go.Proofs.YtededpnjijfieaaGreatDoor.fnXorNumbers
open Go.ChangeShapes Go.WideShapes Go.ChangeAt Go.RowKit
set_option linter.unusedVariables false

set_option maxRecDepth 100000 in
theorem lifted (os : Os) (started : os.Started) (H : Type) (enc : TypeId × Value → H) :
    ReturnsInHanded {} Tryz.checked os 9 .any (fun w args => (Rows.fnXorNumbersSpec.pre enc Tryz.prog Tryz.f9 Rows.fnXorNumbersRow.domain false w args ∧ laidMetH Tryz.prog Rows.fnXorNumbersRow.laid w) ∧ sizedMet enc Tryz.prog Tryz.f9 (OpenSpec.ofChange Rows.fnXorNumbersSpec) false w args)
      (Rows.fnXorNumbersSpec.post enc Tryz.prog Tryz.f9 false true false false) := by
  refine returnsInHanded_of_change_and (C := Tryz.checked) (X := fun w _ => laidMetH Tryz.prog Rows.fnXorNumbersRow.laid w) (fun _ _ _ hh h => h.of_heap hh) own started (by kernel_rfl) Tryz.func9
    (ChangeSpec.witness_shaped (enc := enc) (C := Tryz.checked) (os := os) (X := fun w _ => laidMetH Tryz.prog Rows.fnXorNumbersRow.laid w) false (World.laidAll Tryz.prog os Rows.fnXorNumbersRow.laid) #[.slice none 0 0] 8 (World.laidAll_os _ _ _)
      (World.shaped_of_ZipB (by kernel_rfl) (by kernel_rfl)) (by kernel_rfl) (by kernel_rfl) (by kernel_rfl)
      (by rw [MakeChecks.laidMetH_plain _ _ _ (by kernel_rfl)]; exact laidMet_laidAll _ (by kernel_rfl) (by kernel_rfl))) ?_
  intro W base args ds gs before hval0 hW hc _ hL _
  have hval : ∀ (j : Nat) t v, Tryz.f9.params[j]? = some t → args[j]? = some v → Value.okWide Tryz.prog W .any base t v := hval0
  have hW' := hW
  obtain ⟨p, q, hA0, hV, rfl, _, _⟩ := hW
  have hA : DataW.TrodAll enc Tryz.prog W 0 (fun _ => true) true Tryz.f9.params.toList args.toList ds p := hA0
  rw [Tryz.params9] at hA hval
  obtain ⟨v0, d0, rfl, rfl, h0⟩ := trodAll_one hA
  obtain ⟨rfl, rfl⟩ := trodVars_none hV
  obtain ⟨a0, n0, c0, rfl⟩ := okWide_slice Tryz.underlying34 (hval 0 34 v0 rfl rfl)
  obtain ⟨x0, hr0⟩ := row_ints h0
  simp only [List.append_nil] at hW'
  refine (law_XorNumbers x0 (.slice a0 n0 c0) W hr0).mono fun e W' ⟨he, hb⟩ => ?_
  subst he
  exact ⟨_, rfl, _, _, _, [], p, [], hW', trodAll_mk1 (shut_bool Tryz.underlying4 _), trodAll_mk1 (trod_again (of_decide_eq_true (by kernel_rfl)) hb h0), rfl, hb.frame _, fun h => by cases h⟩

theorem k1 : Rows.fnXorNumbersRow.wf (OpenSpec.ofChange Rows.fnXorNumbersSpec) = true := by kernel_rfl
theorem k4 : Tryz.f9.params.all (Tryz.prog.readableRec ·) = true := by kernel_rfl
theorem k5 : namedTie Tryz.prog Rows.fnXorNumbersRow.named Rows.fnXorNumbersSpec.vars = true := by kernel_rfl
theorem k6 : (Rows.fnXorNumbersRow.stops == []) = true := by kernel_rfl
theorem k8 : (Rows.fnXorNumbersRow.knobs == []) = true := by kernel_rfl
theorem k10 : (Rows.fnXorNumbersRow.inPlace == Tryz.prog.inPlace 9) = true := by kernel_rfl
theorem k11 : (Rows.fnXorNumbersRow.unfollowed == Tryz.prog.unfollowed 9) = true := by kernel_rfl
theorem k12 : (Rows.fnXorNumbersRow.recurses == Tryz.prog.recurses 9) = true := by kernel_rfl
theorem k13 : (Rows.fnXorNumbersRow.named == Tryz.prog.varsNamed 9) = true := by kernel_rfl
theorem k14 : (Rows.fnXorNumbersRow.maps == (Tryz.f9.params.toList ++ Rows.fnXorNumbersSpec.plain.varTypes Tryz.prog).any (Tryz.prog.mapsRec ·)) = true := by kernel_rfl
theorem k15 : (Rows.fnXorNumbersRow.ifaces == (Tryz.f9.params.toList ++ Rows.fnXorNumbersSpec.plain.varTypes Tryz.prog).any (Tryz.prog.ifacesRec ·)) = true := by kernel_rfl
theorem k16 : (Rows.fnXorNumbersRow.mapsOut == Tryz.prog.mapsAmong Tryz.f9.resultTypes.toList) = true := by kernel_rfl
theorem k17 : (Rows.fnXorNumbersRow.loops == (Tryz.f9.params.toList ++ Rows.fnXorNumbersSpec.plain.varTypes Tryz.prog).any (Tryz.prog.loopsFrom ·)) = true := by kernel_rfl
theorem k17b : (Rows.fnXorNumbersRow.wideKeys == (Tryz.f9.params.toList ++ Rows.fnXorNumbersSpec.plain.varTypes Tryz.prog ++ Tryz.f9.resultTypes.toList).any (Tryz.prog.wideKeysFrom ·)) = true := by kernel_rfl
theorem k18 : Rows.fnXorNumbersSpec.vars.all (Tryz.prog.varReadable ·) = true := by kernel_rfl
theorem k19 : Tryz.f9.resultTypes.all (fun t => Tryz.prog.readableRec t && decide (t < Tryz.prog.types.size)) = true := by kernel_rfl
theorem k20 : (Rows.fnXorNumbersRow.ifacesOut == Tryz.f9.resultTypes.toList.any (Tryz.prog.ifacesRec ·)) = true := by kernel_rfl
theorem k21 : (Rows.fnXorNumbersRow.loopsOut == Tryz.f9.resultTypes.toList.any (Tryz.prog.loopsFrom ·)) = true := by kernel_rfl
theorem k22 : (Rows.fnXorNumbersRow.plainKeys == Tryz.prog.plainKeys) = true := by kernel_rfl
theorem k23 : Rows.fnXorNumbersRow.shortTexts.isNone = true := by kernel_rfl
theorem k24b : (Rows.fnXorNumbersRow.lifted == Tryz.prog.liftsFinal) = true := by kernel_rfl
theorem k24c : (Tryz.prog.make == some Rows.fnXorNumbersRow.make) = true := by kernel_rfl
theorem k25 : kindsFact Tryz.prog Tryz.f9 Rows.fnXorNumbersRow = true := by kernel_rfl
theorem k26 : (Rows.fnXorNumbersRow.pinned == Rows.fnXorNumbersRow.pinnedBy) = true := by kernel_rfl
theorem k27 : (Rows.fnXorNumbersRow.veiled == (Tryz.f9.params.toList ++ Rows.fnXorNumbersSpec.plain.varTypes Tryz.prog ++ Tryz.f9.resultTypes.toList).any (Tryz.prog.veiledRec ·)) = true := by kernel_rfl
theorem k28 : Rows.fnXorNumbersRow.veiledFits Tryz.prog Tryz.f9.params.toList (Tryz.f9.params.toList ++ Rows.fnXorNumbersSpec.plain.varTypes Tryz.prog ++ Tryz.f9.resultTypes.toList) = true := by kernel_rfl
theorem closed : joinedFacts Tryz.prog 9 Tryz.f9 Rows.fnXorNumbersSpec Rows.fnXorNumbersRow = true :=
  joined_of k1 fa_laidOut fa_mapsRowed k4 k5 k6 fa_stops k8 fa_stopKnobs k10 k11 k12 k13 k14 k15 k16 k17 k17b k18 k19 k20 k21 k22 k23 fa_heard fa_mayEnter k24b k24c k25 k26 k27 k28

theorem fnamed : Tryz.prog.funcNamed "pub-tallysheet/laws.FnXorNumbers" = some 9 := by kernel_rfl
theorem wrapper : Tryz.f9.isWrapper Tryz.prog Rows.fnXorNumbersRow.wrapper Rows.fnXorNumbersRow.mainSum := by
  unfold Func.isWrapper; first | (rw [if_pos (by decide +kernel)]; kernel_rfl) | (rw [if_neg (by decide +kernel)]; exact ⟨rfl, rfl⟩)
theorem holds : Rows.FnXorNumbersSaid :=
  OpenClaim.holds_of_wide 9 Tryz.f9 rfl rfl rfl rfl rfl rfl rfl ⟨rfl, rfl, rfl, rfl, rfl⟩ rfl rfl rfl rfl rfl fnamed Tryz.func9 closed
    (of_decide_eq_true (by kernel_rfl)) wrapper
    (fun os started H enc _ => lifted os started H enc)

theorem byText : Rows.fnXorNumbersRow.wfByText (OpenSpec.ofChange Rows.fnXorNumbersSpec) = true := by kernel_rfl
theorem mainIs : Tryz.pinned.checked.prog.mainIs = some (true, "0302cedaf9c470633c952f437f4a44968099246358095956ff6a1e09e5da4eeb".toList) := by kernel_rfl
theorem looks : true = Tryz.prog.looks [] := by kernel_rfl
theorem goes : false = Rows.fnXorNumbersRow.goesBy Tryz.prog := by kernel_rfl
theorem plain : ([34].all fun u => !Tryz.prog.wantsStandIn u) = true := by kernel_rfl

/-- ████ THE STATEMENT: THE TIED CARD ████ -/
theorem card : Rows.FnXorNumbersCardSaid :=
  Claim7.holds_tied_plain_at .later [] [.data, .data, .widerDeep, .widerDeep, .data, .data, .data, .data, .data, .sentinel, .sentinel, .pinned, .pinned] true (true, "0302cedaf9c470633c952f437f4a44968099246358095956ff6a1e09e5da4eeb") true holds (fun _ h => by cases h) byText (fun _ h => by cases h) fnXorNumbers_row_tie rfl ⟨rfl, rfl⟩ mainIs rfl
    (fun f fn hf hfn => by
      obtain rfl : f = 9 := Option.some.inj (fnamed.symm.trans hf) |>.symm
      obtain rfl : fn = Tryz.f9 := (Option.some.inj (Tryz.func9.symm.trans hfn)).symm
      exact ⟨looks, fun j t ht => by
        rw [Tryz.params9] at ht
        have hm : t ∈ [34] := by simpa using Array.mem_of_getElem? ht
        exact (show Tryz.prog.wantsStandIn t = false by simpa using List.all_eq_true.1 plain t hm)⟩)
    goes
#print axioms card
end Go.Proofs.YtededpnjijfieaaGreatDoor.fnXorNumbers
