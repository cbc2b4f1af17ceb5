/-
THE ROW AND THE TIED CARD of laws.FnMid, off the walked law. Written by gencard.py after the worked proof 'PinupProofs'.
-/
import Derived.Test.YtopomonencffkaaGreatDoorFacts
import Derived.Test.YtopomonencffkaaGreatDoorLMid

import Derived.ProofKit
import Derived.OpenShut
import Derived.LaidMore
import Derived.Lay
import Derived.SevenTiedAt
import Derived.Stop.Joined
namespace Go.Proofs.YtopomonencffkaaGreatDoor.fnMid
open Go.ChangeShapes Go.WideShapes Go.ChangeAt Go.RowKit
set_option linter.unusedVariables false

set_option maxRecDepth 100000 in
theorem lifted (os : Os) (started : os.Started) (H : Type) (enc : TypeId × Value → H) :
    ReturnsInHanded {} Tryz.checked os 5 .any (fun w args => (Rows.fnMidSpec.pre enc Tryz.prog Tryz.f5 Rows.fnMidRow.domain false w args ∧ laidMetH Tryz.prog Rows.fnMidRow.laid w) ∧ sizedMet enc Tryz.prog Tryz.f5 (OpenSpec.ofChange Rows.fnMidSpec) false w args)
      (Rows.fnMidSpec.post enc Tryz.prog Tryz.f5 false true false false) := by
  refine returnsInHanded_of_change_and (C := Tryz.checked) (X := fun w _ => laidMetH Tryz.prog Rows.fnMidRow.laid w) (fun _ _ _ hh h => h.of_heap hh) own started (by kernel_rfl) Tryz.func5
    (ChangeSpec.witness_shaped (enc := enc) (C := Tryz.checked) (os := os) (X := fun w _ => laidMetH Tryz.prog Rows.fnMidRow.laid w) false (World.laidAll Tryz.prog os Rows.fnMidRow.laid) #[.string ⟨#[]⟩, .int .i64 0, .int .i64 0] 8 (World.laidAll_os _ _ _)
      (World.shaped_of_ZipB (by kernel_rfl) (by kernel_rfl)) (by kernel_rfl) (by kernel_rfl) (by kernel_rfl)
      (by rw [MakeChecks.laidMetH_plain _ _ _ (by kernel_rfl)]; exact laidMet_laidAll _ (by kernel_rfl) (by kernel_rfl))) ?_
  intro W base args ds gs before hval0 hW hc _ hL _
  have hval : ∀ (j : Nat) t v, Tryz.f5.params[j]? = some t → args[j]? = some v → Value.okWide Tryz.prog W .any base t v := hval0
  have hW' := hW
  obtain ⟨p, q, hA0, hV, rfl, _, _⟩ := hW
  have hA : DataW.TrodAll enc Tryz.prog W 0 (fun _ => true) true Tryz.f5.params.toList args.toList ds p := hA0
  rw [Tryz.params5] at hA hval
  obtain ⟨v0, vs0, d0, ds0, p0, q0, hargs, rfl, rfl, h0, r0⟩ := trodAll_cons hA
  obtain ⟨v1, vs1, d1, ds1, p1, q1, rfl, rfl, rfl, h1, r1⟩ := trodAll_cons r0
  obtain ⟨v2, vs2, d2, ds2, p2, q2, rfl, rfl, rfl, h2, r2⟩ := trodAll_cons r1
  obtain ⟨rfl, rfl, rfl⟩ := trodAll_nil r2
  obtain rfl : args = #[v0, v1, v2] := by cases args; simp_all
  obtain ⟨rfl, rfl⟩ := trodVars_none hV
  obtain ⟨x0, rfl, rfl, rfl, wx0⟩ := Go.ChangeMaps.open_string Tryz.underlying9 (hval 0 9 v0 rfl rfl) h0
  obtain ⟨x1, rfl, rfl, rfl, wx1⟩ := open_int Tryz.underlying3 (hval 1 3 v1 rfl rfl) h1
  obtain ⟨x2, rfl, rfl, rfl, wx2⟩ := open_int Tryz.underlying3 (hval 2 3 v2 rfl rfl) h2
  simp only [List.append_nil] at hW'
  refine (law_Mid x0 x1 x2 W).mono fun e W' ⟨he, hb⟩ => ?_
  subst he
  exact ⟨_, rfl, _, _, _, [], [], [], hW', trodAll_mk1 (shut_bool Tryz.underlying4 _), (trodAll_cons_mk (Go.ChangeMaps.shut_string Tryz.underlying9 wx0) (trodAll_cons_mk (shut_int Tryz.underlying3 wx1) (trodAll_cons_mk (shut_int Tryz.underlying3 wx2) trodAll_mk0))), rfl, hb.frame _, fun h => by cases h⟩

theorem k1 : Rows.fnMidRow.wf (OpenSpec.ofChange Rows.fnMidSpec) = true := by kernel_rfl
theorem k4 : Tryz.f5.params.all (Tryz.prog.readableRec ·) = true := by kernel_rfl
theorem k5 : namedTie Tryz.prog Rows.fnMidRow.named Rows.fnMidSpec.vars = true := by kernel_rfl
theorem k6 : (Rows.fnMidRow.stops == []) = true := by kernel_rfl
theorem k8 : (Rows.fnMidRow.knobs == []) = true := by kernel_rfl
theorem k10 : (Rows.fnMidRow.inPlace == Tryz.prog.inPlace 5) = true := by kernel_rfl
theorem k11 : (Rows.fnMidRow.unfollowed == Tryz.prog.unfollowed 5) = true := by kernel_rfl
theorem k12 : (Rows.fnMidRow.recurses == Tryz.prog.recurses 5) = true := by kernel_rfl
theorem k13 : (Rows.fnMidRow.named == Tryz.prog.varsNamed 5) = true := by kernel_rfl
theorem k14 : (Rows.fnMidRow.maps == (Tryz.f5.params.toList ++ Rows.fnMidSpec.plain.varTypes Tryz.prog).any (Tryz.prog.mapsRec ·)) = true := by kernel_rfl
theorem k15 : (Rows.fnMidRow.ifaces == (Tryz.f5.params.toList ++ Rows.fnMidSpec.plain.varTypes Tryz.prog).any (Tryz.prog.ifacesRec ·)) = true := by kernel_rfl
theorem k16 : (Rows.fnMidRow.mapsOut == Tryz.prog.mapsAmong Tryz.f5.resultTypes.toList) = true := by kernel_rfl
theorem k17 : (Rows.fnMidRow.loops == (Tryz.f5.params.toList ++ Rows.fnMidSpec.plain.varTypes Tryz.prog).any (Tryz.prog.loopsFrom ·)) = true := by kernel_rfl
theorem k17b : (Rows.fnMidRow.wideKeys == (Tryz.f5.params.toList ++ Rows.fnMidSpec.plain.varTypes Tryz.prog ++ Tryz.f5.resultTypes.toList).any (Tryz.prog.wideKeysFrom ·)) = true := by kernel_rfl
theorem k18 : Rows.fnMidSpec.vars.all (Tryz.prog.varReadable ·) = true := by kernel_rfl
theorem k19 : Tryz.f5.resultTypes.all (fun t => Tryz.prog.readableRec t && decide (t < Tryz.prog.types.size)) = true := by kernel_rfl
theorem k20 : (Rows.fnMidRow.ifacesOut == Tryz.f5.resultTypes.toList.any (Tryz.prog.ifacesRec ·)) = true := by kernel_rfl
theorem k21 : (Rows.fnMidRow.loopsOut == Tryz.f5.resultTypes.toList.any (Tryz.prog.loopsFrom ·)) = true := by kernel_rfl
theorem k22 : (Rows.fnMidRow.plainKeys == Tryz.prog.plainKeys) = true := by kernel_rfl
theorem k23 : Rows.fnMidRow.shortTexts.isNone = true := by kernel_rfl
theorem k24b : (Rows.fnMidRow.lifted == Tryz.prog.liftsFinal) = true := by kernel_rfl
theorem k24c : (Tryz.prog.make == some Rows.fnMidRow.make) = true := by kernel_rfl
theorem k25 : kindsFact Tryz.prog Tryz.f5 Rows.fnMidRow = true := by kernel_rfl
theorem k26 : (Rows.fnMidRow.pinned == Rows.fnMidRow.pinnedBy) = true := by kernel_rfl
theorem k27 : (Rows.fnMidRow.veiled == (Tryz.f5.params.toList ++ Rows.fnMidSpec.plain.varTypes Tryz.prog ++ Tryz.f5.resultTypes.toList).any (Tryz.prog.veiledRec ·)) = true := by kernel_rfl
theorem k28 : Rows.fnMidRow.veiledFits Tryz.prog Tryz.f5.params.toList (Tryz.f5.params.toList ++ Rows.fnMidSpec.plain.varTypes Tryz.prog ++ Tryz.f5.resultTypes.toList) = true := by kernel_rfl
theorem closed : joinedFacts Tryz.prog 5 Tryz.f5 Rows.fnMidSpec Rows.fnMidRow = true :=
  joined_of k1 fa_laidOut fa_mapsRowed k4 k5 k6 fa_stops k8 fa_stopKnobs k10 k11 k12 k13 k14 k15 k16 k17 k17b k18 k19 k20 k21 k22 k23 fa_heard fa_mayEnter k24b k24c k25 k26 k27 k28

theorem fnamed : Tryz.prog.funcNamed "pub-tallysheet/laws.FnMid" = some 5 := by kernel_rfl
theorem wrapper : Tryz.f5.isWrapper Tryz.prog Rows.fnMidRow.wrapper Rows.fnMidRow.mainSum := by
  unfold Func.isWrapper; first | (rw [if_pos (by decide +kernel)]; kernel_rfl) | (rw [if_neg (by decide +kernel)]; exact ⟨rfl, rfl⟩)
theorem holds : Rows.FnMidSaid :=
  OpenClaim.holds_of_wide 5 Tryz.f5 rfl rfl rfl rfl rfl rfl rfl ⟨rfl, rfl, rfl, rfl, rfl⟩ rfl rfl rfl rfl rfl fnamed Tryz.func5 closed
    (of_decide_eq_true (by kernel_rfl)) wrapper
    (fun os started H enc _ => lifted os started H enc)

theorem byText : Rows.fnMidRow.wfByText (OpenSpec.ofChange Rows.fnMidSpec) = true := by kernel_rfl
theorem mainIs : Tryz.pinned.checked.prog.mainIs = some (true, "82ce7d381ee651ae4b9c3ce622b60ee3dcb01aa67e4547c6fbb9ff6e531a0553".toList) := by kernel_rfl
theorem looks : true = Tryz.prog.looks [] := by kernel_rfl
theorem goes : false = Rows.fnMidRow.goesBy Tryz.prog := by kernel_rfl
theorem plain : ([9, 3].all fun u => !Tryz.prog.wantsStandIn u) = true := by kernel_rfl

/-- ████ THE STATEMENT: THE TIED CARD ████ -/
theorem card : Rows.FnMidCardSaid :=
  Claim7.holds_tied_plain_at .later [] [.data, .data, .widerDeep, .widerDeep, .data, .data, .data, .data, .data, .sentinel, .sentinel, .pinned, .pinned] true (true, "82ce7d381ee651ae4b9c3ce622b60ee3dcb01aa67e4547c6fbb9ff6e531a0553") true holds (fun _ h => by cases h) byText (fun _ h => by cases h) fnMid_row_tie rfl ⟨rfl, rfl⟩ mainIs rfl
    (fun f fn hf hfn => by
      obtain rfl : f = 5 := Option.some.inj (fnamed.symm.trans hf) |>.symm
      obtain rfl : fn = Tryz.f5 := (Option.some.inj (Tryz.func5.symm.trans hfn)).symm
      exact ⟨looks, fun j t ht => by
        rw [Tryz.params5] at ht
        have hm : t ∈ [9, 3] := by simpa using Array.mem_of_getElem? ht
        exact (show Tryz.prog.wantsStandIn t = false by simpa using List.all_eq_true.1 plain t hm)⟩)
    goes
#print axioms card
end Go.Proofs.YtopomonencffkaaGreatDoor.fnMid
