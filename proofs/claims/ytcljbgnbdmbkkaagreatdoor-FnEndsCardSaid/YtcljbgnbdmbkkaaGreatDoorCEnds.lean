/-
THE ROW AND THE TIED CARD of laws.FnEnds, off the walked law. Written by gencard.py after the worked proof 'PinupProofs'.
-/
import Derived.Test.YtcljbgnbdmbkkaaGreatDoorFacts
import Derived.Test.YtcljbgnbdmbkkaaGreatDoorLLeft

import Derived.ProofKit
import Derived.OpenShut
import Derived.LaidMore
import Derived.Lay
import Derived.SevenTiedAt
import Derived.Stop.Joined
namespace Go.Proofs.YtcljbgnbdmbkkaaGreatDoor.fnEnds
open Go.ChangeShapes Go.WideShapes Go.ChangeAt Go.RowKit
set_option linter.unusedVariables false

set_option maxRecDepth 100000 in
theorem lifted (os : Os) (started : os.Started) (H : Type) (enc : TypeId × Value → H) :
    ReturnsInHanded {} Tryz.checked os 7 .any (fun w args => (Rows.fnEndsSpec.pre enc Tryz.prog Tryz.f7 Rows.fnEndsRow.domain false w args ∧ laidMetH Tryz.prog Rows.fnEndsRow.laid w) ∧ sizedMet enc Tryz.prog Tryz.f7 (OpenSpec.ofChange Rows.fnEndsSpec) false w args)
      (Rows.fnEndsSpec.post enc Tryz.prog Tryz.f7 false true false false) := by
  refine returnsInHanded_of_change_and (C := Tryz.checked) (X := fun w _ => laidMetH Tryz.prog Rows.fnEndsRow.laid w) (fun _ _ _ hh h => h.of_heap hh) own started (by kernel_rfl) Tryz.func7
    (ChangeSpec.witness_shaped (enc := enc) (C := Tryz.checked) (os := os) (X := fun w _ => laidMetH Tryz.prog Rows.fnEndsRow.laid w) false (World.laidAll Tryz.prog os Rows.fnEndsRow.laid) #[.string ⟨#[]⟩] 8 (World.laidAll_os _ _ _)
      (World.shaped_of_ZipB (by kernel_rfl) (by kernel_rfl)) (by kernel_rfl) (by kernel_rfl) (by kernel_rfl)
      (by rw [MakeChecks.laidMetH_plain _ _ _ (by kernel_rfl)]; exact laidMet_laidAll _ (by kernel_rfl) (by kernel_rfl))) ?_
  intro W base args ds gs before hval0 hW hc _ hL _
  have hval : ∀ (j : Nat) t v, Tryz.f7.params[j]? = some t → args[j]? = some v → Value.okWide Tryz.prog W .any base t v := hval0
  have hW' := hW
  obtain ⟨p, q, hA0, hV, rfl, _, _⟩ := hW
  have hA : DataW.TrodAll enc Tryz.prog W 0 (fun _ => true) true Tryz.f7.params.toList args.toList ds p := hA0
  rw [Tryz.params7] at hA hval
  obtain ⟨v0, d0, rfl, rfl, h0⟩ := trodAll_one hA
  obtain ⟨rfl, rfl⟩ := trodVars_none hV
  obtain ⟨x0, rfl, rfl, rfl, wx0⟩ := Go.ChangeMaps.open_string Tryz.underlying9 (hval 0 9 v0 rfl rfl) h0
  simp only [List.append_nil] at hW'
  refine (law_Ends x0 W).mono fun e W' ⟨he, hb⟩ => ?_
  subst he
  exact ⟨_, rfl, _, _, _, [], [], [], hW', trodAll_mk1 (shut_bool Tryz.underlying4 _), trodAll_mk1 (Go.ChangeMaps.shut_string Tryz.underlying9 wx0), rfl, hb.frame _, fun h => by cases h⟩

theorem k1 : Rows.fnEndsRow.wf (OpenSpec.ofChange Rows.fnEndsSpec) = true := by kernel_rfl
theorem k4 : Tryz.f7.params.all (Tryz.prog.readableRec ·) = true := by kernel_rfl
theorem k5 : namedTie Tryz.prog Rows.fnEndsRow.named Rows.fnEndsSpec.vars = true := by kernel_rfl
theorem k6 : (Rows.fnEndsRow.stops == []) = true := by kernel_rfl
theorem k8 : (Rows.fnEndsRow.knobs == []) = true := by kernel_rfl
theorem k10 : (Rows.fnEndsRow.inPlace == Tryz.prog.inPlace 7) = true := by kernel_rfl
theorem k11 : (Rows.fnEndsRow.unfollowed == Tryz.prog.unfollowed 7) = true := by kernel_rfl
theorem k12 : (Rows.fnEndsRow.recurses == Tryz.prog.recurses 7) = true := by kernel_rfl
theorem k13 : (Rows.fnEndsRow.named == Tryz.prog.varsNamed 7) = true := by kernel_rfl
theorem k14 : (Rows.fnEndsRow.maps == (Tryz.f7.params.toList ++ Rows.fnEndsSpec.plain.varTypes Tryz.prog).any (Tryz.prog.mapsRec ·)) = true := by kernel_rfl
theorem k15 : (Rows.fnEndsRow.ifaces == (Tryz.f7.params.toList ++ Rows.fnEndsSpec.plain.varTypes Tryz.prog).any (Tryz.prog.ifacesRec ·)) = true := by kernel_rfl
theorem k16 : (Rows.fnEndsRow.mapsOut == Tryz.prog.mapsAmong Tryz.f7.resultTypes.toList) = true := by kernel_rfl
theorem k17 : (Rows.fnEndsRow.loops == (Tryz.f7.params.toList ++ Rows.fnEndsSpec.plain.varTypes Tryz.prog).any (Tryz.prog.loopsFrom ·)) = true := by kernel_rfl
theorem k17b : (Rows.fnEndsRow.wideKeys == (Tryz.f7.params.toList ++ Rows.fnEndsSpec.plain.varTypes Tryz.prog ++ Tryz.f7.resultTypes.toList).any (Tryz.prog.wideKeysFrom ·)) = true := by kernel_rfl
theorem k18 : Rows.fnEndsSpec.vars.all (Tryz.prog.varReadable ·) = true := by kernel_rfl
theorem k19 : Tryz.f7.resultTypes.all (fun t => Tryz.prog.readableRec t && decide (t < Tryz.prog.types.size)) = true := by kernel_rfl
theorem k20 : (Rows.fnEndsRow.ifacesOut == Tryz.f7.resultTypes.toList.any (Tryz.prog.ifacesRec ·)) = true := by kernel_rfl
theorem k21 : (Rows.fnEndsRow.loopsOut == Tryz.f7.resultTypes.toList.any (Tryz.prog.loopsFrom ·)) = true := by kernel_rfl
theorem k22 : (Rows.fnEndsRow.plainKeys == Tryz.prog.plainKeys) = true := by kernel_rfl
theorem k23 : Rows.fnEndsRow.shortTexts.isNone = true := by kernel_rfl
theorem k24b : (Rows.fnEndsRow.lifted == Tryz.prog.liftsFinal) = true := by kernel_rfl
theorem k24c : (Tryz.prog.make == some Rows.fnEndsRow.make) = true := by kernel_rfl
theorem k25 : kindsFact Tryz.prog Tryz.f7 Rows.fnEndsRow = true := by kernel_rfl
theorem k26 : (Rows.fnEndsRow.pinned == Rows.fnEndsRow.pinnedBy) = true := by kernel_rfl
theorem k27 : (Rows.fnEndsRow.veiled == (Tryz.f7.params.toList ++ Rows.fnEndsSpec.plain.varTypes Tryz.prog ++ Tryz.f7.resultTypes.toList).any (Tryz.prog.veiledRec ·)) = true := by kernel_rfl
theorem k28 : Rows.fnEndsRow.veiledFits Tryz.prog Tryz.f7.params.toList (Tryz.f7.params.toList ++ Rows.fnEndsSpec.plain.varTypes Tryz.prog ++ Tryz.f7.resultTypes.toList) = true := by kernel_rfl
theorem closed : joinedFacts Tryz.prog 7 Tryz.f7 Rows.fnEndsSpec Rows.fnEndsRow = true :=
  joined_of k1 fa_laidOut fa_mapsRowed k4 k5 k6 fa_stops k8 fa_stopKnobs k10 k11 k12 k13 k14 k15 k16 k17 k17b k18 k19 k20 k21 k22 k23 fa_heard fa_mayEnter k24b k24c k25 k26 k27 k28

theorem fnamed : Tryz.prog.funcNamed "pub-tallysheet/laws.FnEnds" = some 7 := by kernel_rfl
theorem wrapper : Tryz.f7.isWrapper Tryz.prog Rows.fnEndsRow.wrapper Rows.fnEndsRow.mainSum := by
  unfold Func.isWrapper; first | (rw [if_pos (by decide +kernel)]; kernel_rfl) | (rw [if_neg (by decide +kernel)]; exact ⟨rfl, rfl⟩)
theorem holds : Rows.FnEndsSaid :=
  OpenClaim.holds_of_wide 7 Tryz.f7 rfl rfl rfl rfl rfl rfl rfl ⟨rfl, rfl, rfl, rfl, rfl⟩ rfl rfl rfl rfl rfl fnamed Tryz.func7 closed
    (of_decide_eq_true (by kernel_rfl)) wrapper
    (fun os started H enc _ => lifted os started H enc)

theorem byText : Rows.fnEndsRow.wfByText (OpenSpec.ofChange Rows.fnEndsSpec) = true := by kernel_rfl
theorem mainIs : Tryz.pinned.checked.prog.mainIs = some (true, "8804fa332ba94db976f46c74cf0b1ce9c022a92e907c0b7eb4a9e77cf9225829".toList) := by kernel_rfl
theorem looks : true = Tryz.prog.looks [] := by kernel_rfl
theorem goes : false = Rows.fnEndsRow.goesBy Tryz.prog := by kernel_rfl
theorem plain : ([9].all fun u => !Tryz.prog.wantsStandIn u) = true := by kernel_rfl

/-- ████ THE STATEMENT: THE TIED CARD ████ -/
theorem card : Rows.FnEndsCardSaid :=
  Claim7.holds_tied_plain_at .later [] [.data, .data, .widerDeep, .widerDeep, .data, .data, .data, .data, .data, .sentinel, .sentinel, .pinned, .pinned] true (true, "8804fa332ba94db976f46c74cf0b1ce9c022a92e907c0b7eb4a9e77cf9225829") true holds (fun _ h => by cases h) byText (fun _ h => by cases h) fnEnds_row_tie rfl ⟨rfl, rfl⟩ mainIs rfl
    (fun f fn hf hfn => by
      obtain rfl : f = 7 := Option.some.inj (fnamed.symm.trans hf) |>.symm
      obtain rfl : fn = Tryz.f7 := (Option.some.inj (Tryz.func7.symm.trans hfn)).symm
      exact ⟨looks, fun j t ht => by
        rw [Tryz.params7] at ht
        have hm : t ∈ [9] := by simpa using Array.mem_of_getElem? ht
        exact (show Tryz.prog.wantsStandIn t = false by simpa using List.all_eq_true.1 plain t hm)⟩)
    goes
#print axioms card
end Go.Proofs.YtcljbgnbdmbkkaaGreatDoor.fnEnds
