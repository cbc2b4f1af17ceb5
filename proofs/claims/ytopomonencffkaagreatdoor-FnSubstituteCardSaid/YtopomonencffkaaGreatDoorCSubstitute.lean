/-
THE ROW AND THE TIED CARD of laws.FnSubstitute, off the walked law. Written by gencard.py after the worked proof 'PinupProofs'.
-/
import Derived.Test.YtopomonencffkaaGreatDoorFacts
import Derived.Test.YtopomonencffkaaGreatDoorLSubstitute

import Derived.ProofKit
import Derived.OpenShut
import Derived.LaidMore
import Derived.Lay
import Derived.SevenTiedAt
import Derived.Stop.Joined
namespace Go.Proofs.YtopomonencffkaaGreatDoor.fnSubstitute
open Go.ChangeShapes Go.WideShapes Go.ChangeAt Go.RowKit
set_option linter.unusedVariables false

set_option maxRecDepth 100000 in
theorem lifted (os : Os) (started : os.Started) (H : Type) (enc : TypeId × Value → H) :
    ReturnsInHanded {} Tryz.checked os 4 .any (fun w args => (Rows.fnSubstituteSpec.pre enc Tryz.prog Tryz.f4 Rows.fnSubstituteRow.domain false w args ∧ laidMetH Tryz.prog Rows.fnSubstituteRow.laid w) ∧ sizedMet enc Tryz.prog Tryz.f4 (OpenSpec.ofChange Rows.fnSubstituteSpec) false w args)
      (Rows.fnSubstituteSpec.post enc Tryz.prog Tryz.f4 false true false false) := by
  refine returnsInHanded_of_change_and (C := Tryz.checked) (X := fun w _ => laidMetH Tryz.prog Rows.fnSubstituteRow.laid w) (fun _ _ _ hh h => h.of_heap hh) own started (by kernel_rfl) Tryz.func4
    (ChangeSpec.witness_shaped (enc := enc) (C := Tryz.checked) (os := os) (X := fun w _ => laidMetH Tryz.prog Rows.fnSubstituteRow.laid w) false (World.laidAll Tryz.prog os Rows.fnSubstituteRow.laid) #[.string ⟨#[]⟩, .string ⟨#[]⟩, .string ⟨#[]⟩, .int .i64 0] 8 (World.laidAll_os _ _ _)
      (World.shaped_of_ZipB (by kernel_rfl) (by kernel_rfl)) (by kernel_rfl) (by kernel_rfl) (by kernel_rfl)
      (by rw [MakeChecks.laidMetH_plain _ _ _ (by kernel_rfl)]; exact laidMet_laidAll _ (by kernel_rfl) (by kernel_rfl))) ?_
  intro W base args ds gs before hval0 hW hc _ hL _
  have hval : ∀ (j : Nat) t v, Tryz.f4.params[j]? = some t → args[j]? = some v → Value.okWide Tryz.prog W .any base t v := hval0
  have hW' := hW
  obtain ⟨p, q, hA0, hV, rfl, _, _⟩ := hW
  have hA : DataW.TrodAll enc Tryz.prog W 0 (fun _ => true) true Tryz.f4.params.toList args.toList ds p := hA0
  rw [Tryz.params4] at hA hval
  obtain ⟨v0, vs0, d0, ds0, p0, q0, hargs, rfl, rfl, h0, r0⟩ := trodAll_cons hA
  obtain ⟨v1, vs1, d1, ds1, p1, q1, rfl, rfl, rfl, h1, r1⟩ := trodAll_cons r0
  obtain ⟨v2, vs2, d2, ds2, p2, q2, rfl, rfl, rfl, h2, r2⟩ := trodAll_cons r1
  obtain ⟨v3, vs3, d3, ds3, p3, q3, rfl, rfl, rfl, h3, r3⟩ := trodAll_cons r2
  obtain ⟨rfl, rfl, rfl⟩ := trodAll_nil r3
  obtain rfl : args = #[v0, v1, v2, v3] := by cases args; simp_all
  obtain ⟨rfl, rfl⟩ := trodVars_none hV
  obtain ⟨x0, rfl, rfl, rfl, wx0⟩ := Go.ChangeMaps.open_string Tryz.underlying9 (hval 0 9 v0 rfl rfl) h0
  obtain ⟨x1, rfl, rfl, rfl, wx1⟩ := Go.ChangeMaps.open_string Tryz.underlying9 (hval 1 9 v1 rfl rfl) h1
  obtain ⟨x2, rfl, rfl, rfl, wx2⟩ := Go.ChangeMaps.open_string Tryz.underlying9 (hval 2 9 v2 rfl rfl) h2
  obtain ⟨x3, rfl, rfl, rfl, wx3⟩ := open_int Tryz.underlying3 (hval 3 3 v3 rfl rfl) h3
  simp only [List.append_nil] at hW'
  refine (law_Substitute x0 x1 x2 x3 W).mono fun e W' ⟨he, hb⟩ => ?_
  subst he
  exact ⟨_, rfl, _, _, _, [], [], [], hW', trodAll_mk1 (shut_bool Tryz.underlying4 _), (trodAll_cons_mk (Go.ChangeMaps.shut_string Tryz.underlying9 wx0) (trodAll_cons_mk (Go.ChangeMaps.shut_string Tryz.underlying9 wx1) (trodAll_cons_mk (Go.ChangeMaps.shut_string Tryz.underlying9 wx2) (trodAll_cons_mk (shut_int Tryz.underlying3 wx3) trodAll_mk0)))), rfl, hb.frame _, fun h => by cases h⟩

theorem k1 : Rows.fnSubstituteRow.wf (OpenSpec.ofChange Rows.fnSubstituteSpec) = true := by kernel_rfl
theorem k4 : Tryz.f4.params.all (Tryz.prog.readableRec ·) = true := by kernel_rfl
theorem k5 : namedTie Tryz.prog Rows.fnSubstituteRow.named Rows.fnSubstituteSpec.vars = true := by kernel_rfl
theorem k6 : (Rows.fnSubstituteRow.stops == []) = true := by kernel_rfl
theorem k8 : (Rows.fnSubstituteRow.knobs == []) = true := by kernel_rfl
theorem k10 : (Rows.fnSubstituteRow.inPlace == Tryz.prog.inPlace 4) = true := by kernel_rfl
theorem k11 : (Rows.fnSubstituteRow.unfollowed == Tryz.prog.unfollowed 4) = true := by kernel_rfl
theorem k12 : (Rows.fnSubstituteRow.recurses == Tryz.prog.recurses 4) = true := by kernel_rfl
theorem k13 : (Rows.fnSubstituteRow.named == Tryz.prog.varsNamed 4) = true := by kernel_rfl
theorem k14 : (Rows.fnSubstituteRow.maps == (Tryz.f4.params.toList ++ Rows.fnSubstituteSpec.plain.varTypes Tryz.prog).any (Tryz.prog.mapsRec ·)) = true := by kernel_rfl
theorem k15 : (Rows.fnSubstituteRow.ifaces == (Tryz.f4.params.toList ++ Rows.fnSubstituteSpec.plain.varTypes Tryz.prog).any (Tryz.prog.ifacesRec ·)) = true := by kernel_rfl
theorem k16 : (Rows.fnSubstituteRow.mapsOut == Tryz.prog.mapsAmong Tryz.f4.resultTypes.toList) = true := by kernel_rfl
theorem k17 : (Rows.fnSubstituteRow.loops == (Tryz.f4.params.toList ++ Rows.fnSubstituteSpec.plain.varTypes Tryz.prog).any (Tryz.prog.loopsFrom ·)) = true := by kernel_rfl
theorem k17b : (Rows.fnSubstituteRow.wideKeys == (Tryz.f4.params.toList ++ Rows.fnSubstituteSpec.plain.varTypes Tryz.prog ++ Tryz.f4.resultTypes.toList).any (Tryz.prog.wideKeysFrom ·)) = true := by kernel_rfl
theorem k18 : Rows.fnSubstituteSpec.vars.all (Tryz.prog.varReadable ·) = true := by kernel_rfl
theorem k19 : Tryz.f4.resultTypes.all (fun t => Tryz.prog.readableRec t && decide (t < Tryz.prog.types.size)) = true := by kernel_rfl
theorem k20 : (Rows.fnSubstituteRow.ifacesOut == Tryz.f4.resultTypes.toList.any (Tryz.prog.ifacesRec ·)) = true := by kernel_rfl
theorem k21 : (Rows.fnSubstituteRow.loopsOut == Tryz.f4.resultTypes.toList.any (Tryz.prog.loopsFrom ·)) = true := by kernel_rfl
theorem k22 : (Rows.fnSubstituteRow.plainKeys == Tryz.prog.plainKeys) = true := by kernel_rfl
theorem k23 : Rows.fnSubstituteRow.shortTexts.isNone = true := by kernel_rfl
theorem k24b : (Rows.fnSubstituteRow.lifted == Tryz.prog.liftsFinal) = true := by kernel_rfl
theorem k24c : (Tryz.prog.make == some Rows.fnSubstituteRow.make) = true := by kernel_rfl
theorem k25 : kindsFact Tryz.prog Tryz.f4 Rows.fnSubstituteRow = true := by kernel_rfl
theorem k26 : (Rows.fnSubstituteRow.pinned == Rows.fnSubstituteRow.pinnedBy) = true := by kernel_rfl
theorem k27 : (Rows.fnSubstituteRow.veiled == (Tryz.f4.params.toList ++ Rows.fnSubstituteSpec.plain.varTypes Tryz.prog ++ Tryz.f4.resultTypes.toList).any (Tryz.prog.veiledRec ·)) = true := by kernel_rfl
theorem k28 : Rows.fnSubstituteRow.veiledFits Tryz.prog Tryz.f4.params.toList (Tryz.f4.params.toList ++ Rows.fnSubstituteSpec.plain.varTypes Tryz.prog ++ Tryz.f4.resultTypes.toList) = true := by kernel_rfl
theorem closed : joinedFacts Tryz.prog 4 Tryz.f4 Rows.fnSubstituteSpec Rows.fnSubstituteRow = true :=
  joined_of k1 fa_laidOut fa_mapsRowed k4 k5 k6 fa_stops k8 fa_stopKnobs k10 k11 k12 k13 k14 k15 k16 k17 k17b k18 k19 k20 k21 k22 k23 fa_heard fa_mayEnter k24b k24c k25 k26 k27 k28

theorem fnamed : Tryz.prog.funcNamed "pub-tallysheet/laws.FnSubstitute" = some 4 := by kernel_rfl
theorem wrapper : Tryz.f4.isWrapper Tryz.prog Rows.fnSubstituteRow.wrapper Rows.fnSubstituteRow.mainSum := by
  unfold Func.isWrapper; first | (rw [if_pos (by decide +kernel)]; kernel_rfl) | (rw [if_neg (by decide +kernel)]; exact ⟨rfl, rfl⟩)
theorem holds : Rows.FnSubstituteSaid :=
  OpenClaim.holds_of_wide 4 Tryz.f4 rfl rfl rfl rfl rfl rfl rfl ⟨rfl, rfl, rfl, rfl, rfl⟩ rfl rfl rfl rfl rfl fnamed Tryz.func4 closed
    (of_decide_eq_true (by kernel_rfl)) wrapper
    (fun os started H enc _ => lifted os started H enc)

theorem byText : Rows.fnSubstituteRow.wfByText (OpenSpec.ofChange Rows.fnSubstituteSpec) = true := by kernel_rfl
theorem mainIs : Tryz.pinned.checked.prog.mainIs = some (true, "82ce7d381ee651ae4b9c3ce622b60ee3dcb01aa67e4547c6fbb9ff6e531a0553".toList) := by kernel_rfl
theorem looks : true = Tryz.prog.looks [] := by kernel_rfl
theorem goes : false = Rows.fnSubstituteRow.goesBy Tryz.prog := by kernel_rfl
theorem plain : ([9, 3].all fun u => !Tryz.prog.wantsStandIn u) = true := by kernel_rfl

/-- ████ THE STATEMENT: THE TIED CARD ████ -/
theorem card : Rows.FnSubstituteCardSaid :=
  Claim7.holds_tied_plain_at .later [] [.data, .data, .widerDeep, .widerDeep, .data, .data, .data, .data, .data, .sentinel, .sentinel, .pinned, .pinned] true (true, "82ce7d381ee651ae4b9c3ce622b60ee3dcb01aa67e4547c6fbb9ff6e531a0553") true holds (fun _ h => by cases h) byText (fun _ h => by cases h) fnSubstitute_row_tie rfl ⟨rfl, rfl⟩ mainIs rfl
    (fun f fn hf hfn => by
      obtain rfl : f = 4 := Option.some.inj (fnamed.symm.trans hf) |>.symm
      obtain rfl : fn = Tryz.f4 := (Option.some.inj (Tryz.func4.symm.trans hfn)).symm
      exact ⟨looks, fun j t ht => by
        rw [Tryz.params4] at ht
        have hm : t ∈ [9, 3] := by simpa using Array.mem_of_getElem? ht
        exact (show Tryz.prog.wantsStandIn t = false by simpa using List.all_eq_true.1 plain t hm)⟩)
    goes
#print axioms card
end Go.Proofs.YtopomonencffkaaGreatDoor.fnSubstitute
