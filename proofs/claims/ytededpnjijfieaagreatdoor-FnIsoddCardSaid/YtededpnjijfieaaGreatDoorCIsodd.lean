/-
THE ROW AND THE TIED CARD of laws.FnIsodd, off the walked law. Written by gencard.py after the worked proof 'PinupProofs'.
-/
import Derived.Test.YtededpnjijfieaaGreatDoorFacts
import Derived.Test.YtededpnjijfieaaGreatDoorLIsodd
import Derived.ProofKit
import Derived.OpenShut
import Derived.LaidMore
import Derived.Lay
import Derived.SevenTiedAt
import Derived.Stop.Joined
namespace Go.Proofs.YtededpnjijfieaaGreatDoor.fnIsodd
open Go.ChangeShapes Go.WideShapes Go.ChangeAt Go.RowKit
set_option linter.unusedVariables false

set_option maxRecDepth 100000 in
theorem lifted (os : Os) (started : os.Started) (H : Type) (enc : TypeId × Value → H) :
    ReturnsInHanded {} Tryz.checked os 3 .any (fun w args => (Rows.fnIsoddSpec.pre enc Tryz.prog Tryz.f3 Rows.fnIsoddRow.domain false w args ∧ laidMetH Tryz.prog Rows.fnIsoddRow.laid w) ∧ sizedMet enc Tryz.prog Tryz.f3 (OpenSpec.ofChange Rows.fnIsoddSpec) false w args)
      (Rows.fnIsoddSpec.post enc Tryz.prog Tryz.f3 false true false false) := by
  refine returnsInHanded_of_change_and (C := Tryz.checked) (X := fun w _ => laidMetH Tryz.prog Rows.fnIsoddRow.laid w) (fun _ _ _ hh h => h.of_heap hh) own started (by kernel_rfl) Tryz.func3
    (ChangeSpec.witness_shaped (enc := enc) (C := Tryz.checked) (os := os) (X := fun w _ => laidMetH Tryz.prog Rows.fnIsoddRow.laid w) false (World.laidAll Tryz.prog os Rows.fnIsoddRow.laid) #[.int .i64 0] 8 (World.laidAll_os _ _ _)
      (World.shaped_of_ZipB (by kernel_rfl) (by kernel_rfl)) (by kernel_rfl) (by kernel_rfl) (by kernel_rfl)
      (by rw [MakeChecks.laidMetH_plain _ _ _ (by kernel_rfl)]; exact laidMet_laidAll _ (by kernel_rfl) (by kernel_rfl))) ?_
  intro W base args ds gs before hval0 hW hc _ hL _
  have hval : ∀ (j : Nat) t v, Tryz.f3.params[j]? = some t → args[j]? = some v → Value.okWide Tryz.prog W .any base t v := hval0
  have hW' := hW
  obtain ⟨p, q, hA0, hV, rfl, _, _⟩ := hW
  have hA : DataW.TrodAll enc Tryz.prog W 0 (fun _ => true) true Tryz.f3.params.toList args.toList ds p := hA0
  rw [Tryz.params3] at hA hval
  obtain ⟨v0, d0, rfl, rfl, h0⟩ := trodAll_one hA
  obtain ⟨rfl, rfl⟩ := trodVars_none hV
  obtain ⟨x0, rfl, rfl, rfl, wx0⟩ := open_int Tryz.underlying3 (hval 0 3 v0 rfl rfl) h0
  simp only [List.append_nil] at hW'
  refine (law_Isodd x0 W).mono fun e W' ⟨he, hb⟩ => ?_
  subst he
  exact ⟨_, rfl, _, _, _, [], [], [], hW', trodAll_mk1 (shut_bool Tryz.underlying4 _), trodAll_mk1 (shut_int Tryz.underlying3 wx0), rfl, hb.frame _, fun h => by cases h⟩

theorem k1 : Rows.fnIsoddRow.wf (OpenSpec.ofChange Rows.fnIsoddSpec) = true := by kernel_rfl
theorem k4 : Tryz.f3.params.all (Tryz.prog.readableRec ·) = true := by kernel_rfl
theorem k5 : namedTie Tryz.prog Rows.fnIsoddRow.named Rows.fnIsoddSpec.vars = true := by kernel_rfl
theorem k6 : (Rows.fnIsoddRow.stops == []) = true := by kernel_rfl
theorem k8 : (Rows.fnIsoddRow.knobs == []) = true := by kernel_rfl
theorem k10 : (Rows.fnIsoddRow.inPlace == Tryz.prog.inPlace 3) = true := by kernel_rfl
theorem k11 : (Rows.fnIsoddRow.unfollowed == Tryz.prog.unfollowed 3) = true := by kernel_rfl
theorem k12 : (Rows.fnIsoddRow.recurses == Tryz.prog.recurses 3) = true := by kernel_rfl
theorem k13 : (Rows.fnIsoddRow.named == Tryz.prog.varsNamed 3) = true := by kernel_rfl
theorem k14 : (Rows.fnIsoddRow.maps == (Tryz.f3.params.toList ++ Rows.fnIsoddSpec.plain.varTypes Tryz.prog).any (Tryz.prog.mapsRec ·)) = true := by kernel_rfl
theorem k15 : (Rows.fnIsoddRow.ifaces == (Tryz.f3.params.toList ++ Rows.fnIsoddSpec.plain.varTypes Tryz.prog).any (Tryz.prog.ifacesRec ·)) = true := by kernel_rfl
theorem k16 : (Rows.fnIsoddRow.mapsOut == Tryz.prog.mapsAmong Tryz.f3.resultTypes.toList) = true := by kernel_rfl
theorem k17 : (Rows.fnIsoddRow.loops == (Tryz.f3.params.toList ++ Rows.fnIsoddSpec.plain.varTypes Tryz.prog).any (Tryz.prog.loopsFrom ·)) = true := by kernel_rfl
theorem k17b : (Rows.fnIsoddRow.wideKeys == (Tryz.f3.params.toList ++ Rows.fnIsoddSpec.plain.varTypes Tryz.prog ++ Tryz.f3.resultTypes.toList).any (Tryz.prog.wideKeysFrom ·)) = true := by kernel_rfl
theorem k18 : Rows.fnIsoddSpec.vars.all (Tryz.prog.varReadable ·) = true := by kernel_rfl
theorem k19 : Tryz.f3.resultTypes.all (fun t => Tryz.prog.readableRec t && decide (t < Tryz.prog.types.size)) = true := by kernel_rfl
theorem k20 : (Rows.fnIsoddRow.ifacesOut == Tryz.f3.resultTypes.toList.any (Tryz.prog.ifacesRec ·)) = true := by kernel_rfl
theorem k21 : (Rows.fnIsoddRow.loopsOut == Tryz.f3.resultTypes.toList.any (Tryz.prog.loopsFrom ·)) = true := by kernel_rfl
theorem k22 : (Rows.fnIsoddRow.plainKeys == Tryz.prog.plainKeys) = true := by kernel_rfl
theorem k23 : Rows.fnIsoddRow.shortTexts.isNone = true := by kernel_rfl
theorem k24b : (Rows.fnIsoddRow.lifted == Tryz.prog.liftsFinal) = true := by kernel_rfl
theorem k24c : (Tryz.prog.make == some Rows.fnIsoddRow.make) = true := by kernel_rfl
theorem k25 : kindsFact Tryz.prog Tryz.f3 Rows.fnIsoddRow = true := by kernel_rfl
theorem k26 : (Rows.fnIsoddRow.pinned == Rows.fnIsoddRow.pinnedBy) = true := by kernel_rfl
theorem k27 : (Rows.fnIsoddRow.veiled == (Tryz.f3.params.toList ++ Rows.fnIsoddSpec.plain.varTypes Tryz.prog ++ Tryz.f3.resultTypes.toList).any (Tryz.prog.veiledRec ·)) = true := by kernel_rfl
theorem k28 : Rows.fnIsoddRow.veiledFits Tryz.prog Tryz.f3.params.toList (Tryz.f3.params.toList ++ Rows.fnIsoddSpec.plain.varTypes Tryz.prog ++ Tryz.f3.resultTypes.toList) = true := by kernel_rfl
theorem closed : joinedFacts Tryz.prog 3 Tryz.f3 Rows.fnIsoddSpec Rows.fnIsoddRow = true :=
  joined_of k1 fa_laidOut fa_mapsRowed k4 k5 k6 fa_stops k8 fa_stopKnobs k10 k11 k12 k13 k14 k15 k16 k17 k17b k18 k19 k20 k21 k22 k23 fa_heard fa_mayEnter k24b k24c k25 k26 k27 k28

theorem fnamed : Tryz.prog.funcNamed "pub-tallysheet/laws.FnIsodd" = some 3 := by kernel_rfl
theorem wrapper : Tryz.f3.isWrapper Tryz.prog Rows.fnIsoddRow.wrapper Rows.fnIsoddRow.mainSum := by
  unfold Func.isWrapper; first | (rw [if_pos (by decide +kernel)]; kernel_rfl) | (rw [if_neg (by decide +kernel)]; exact ⟨rfl, rfl⟩)
theorem holds : Rows.FnIsoddSaid :=
  OpenClaim.holds_of_wide 3 Tryz.f3 rfl rfl rfl rfl rfl rfl rfl ⟨rfl, rfl, rfl, rfl, rfl⟩ rfl rfl rfl rfl rfl fnamed Tryz.func3 closed
    (of_decide_eq_true (by kernel_rfl)) wrapper
    (fun os started H enc _ => lifted os started H enc)

theorem byText : Rows.fnIsoddRow.wfByText (OpenSpec.ofChange Rows.fnIsoddSpec) = true := by kernel_rfl
theorem mainIs : Tryz.pinned.checked.prog.mainIs = some (true, "0302cedaf9c470633c952f437f4a44968099246358095956ff6a1e09e5da4eeb".toList) := by kernel_rfl
theorem looks : true = Tryz.prog.looks [] := by kernel_rfl
theorem goes : false = Rows.fnIsoddRow.goesBy Tryz.prog := by kernel_rfl
theorem plain : ([3].all fun u => !Tryz.prog.wantsStandIn u) = true := by kernel_rfl

/-- ████ THE STATEMENT: THE TIED CARD ████ -/
theorem card : Rows.FnIsoddCardSaid :=
  Claim7.holds_tied_plain_at .later [] [.data, .data, .widerDeep, .widerDeep, .data, .data, .data, .data, .data, .sentinel, .sentinel, .pinned, .pinned] true (true, "0302cedaf9c470633c952f437f4a44968099246358095956ff6a1e09e5da4eeb") true holds (fun _ h => by cases h) byText (fun _ h => by cases h) fnIsodd_row_tie rfl ⟨rfl, rfl⟩ mainIs rfl
    (fun f fn hf hfn => by
      obtain rfl : f = 3 := Option.some.inj (fnamed.symm.trans hf) |>.symm
      obtain rfl : fn = Tryz.f3 := (Option.some.inj (Tryz.func3.symm.trans hfn)).symm
      exact ⟨looks, fun j t ht => by
        rw [Tryz.params3] at ht
        have hm : t ∈ [3] := by simpa using Array.mem_of_getElem? ht
        exact (show Tryz.prog.wantsStandIn t = false by simpa using List.all_eq_true.1 plain t hm)⟩)
    goes
#print axioms card
end Go.Proofs.YtededpnjijfieaaGreatDoor.fnIsodd
