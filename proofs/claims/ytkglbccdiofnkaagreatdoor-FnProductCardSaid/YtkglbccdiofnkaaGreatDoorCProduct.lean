/-
THE ROW AND THE TIED CARD of laws.FnProduct, off the walked law. Written by gencard.py after the worked proof 'PinupProofs'.
-/
import Derived.Test.YtkglbccdiofnkaaGreatDoorFacts
import Derived.Test.YtkglbccdiofnkaaGreatDoorLProduct
import Derived.Test.YtkglbccdiofnkaaGreatDoorItems
import Derived.ProofKit
import Derived.OpenShut
import Derived.LaidMore
import Derived.Lay
import Derived.SevenTiedAt
import Derived.Stop.Joined
namespace Go.Proofs.YtkglbccdiofnkaaGreatDoor.fnProduct
open Go.ChangeShapes Go.WideShapes Go.ChangeAt Go.RowKit
set_option linter.unusedVariables false

set_option maxRecDepth 100000 in
theorem lifted (os : Os) (started : os.Started) (H : Type) (enc : TypeId × Value → H) :
    ReturnsInHanded {} Tryz.checked os 3 .any (fun w args => (Rows.fnProductSpec.pre enc Tryz.prog Tryz.f3 Rows.fnProductRow.domain false w args ∧ laidMetH Tryz.prog Rows.fnProductRow.laid w) ∧ sizedMet enc Tryz.prog Tryz.f3 (OpenSpec.ofChange Rows.fnProductSpec) false w args)
      (Rows.fnProductSpec.post enc Tryz.prog Tryz.f3 false true false false) := by
  refine returnsInHanded_of_change_and (C := Tryz.checked) (X := fun w _ => laidMetH Tryz.prog Rows.fnProductRow.laid w) (fun _ _ _ hh h => h.of_heap hh) own started (by kernel_rfl) Tryz.func3
    (ChangeSpec.witness_shaped (enc := enc) (C := Tryz.checked) (os := os) (X := fun w _ => laidMetH Tryz.prog Rows.fnProductRow.laid w) false (World.laidAll Tryz.prog os Rows.fnProductRow.laid) #[.slice none 0 0, .int .i64 0, .slice none 0 0] 8 (World.laidAll_os _ _ _)
      (World.shaped_of_ZipB (by kernel_rfl) (by kernel_rfl)) (by kernel_rfl) (by kernel_rfl) (by kernel_rfl)
      (by rw [MakeChecks.laidMetH_plain _ _ _ (by kernel_rfl)]; exact laidMet_laidAll _ (by kernel_rfl) (by kernel_rfl))) ?_
  intro W base args ds gs before hval0 hW hc _ hL _
  have hval : ∀ (j : Nat) t v, Tryz.f3.params[j]? = some t → args[j]? = some v → Value.okWide Tryz.prog W .any base t v := hval0
  have hW' := hW
  obtain ⟨p, q, hA0, hV, rfl, _, _⟩ := hW
  have hA : DataW.TrodAll enc Tryz.prog W 0 (fun _ => true) true Tryz.f3.params.toList args.toList ds p := hA0
  rw [Tryz.params3] at hA hval
  obtain ⟨v0, vs0, d0, ds0, p0, q0, hargs, rfl, rfl, h0, r0⟩ := trodAll_cons hA
  obtain ⟨v1, vs1, d1, ds1, p1, q1, rfl, rfl, rfl, h1, r1⟩ := trodAll_cons r0
  obtain ⟨v2, vs2, d2, ds2, p2, q2, rfl, rfl, rfl, h2, r2⟩ := trodAll_cons r1
  obtain ⟨rfl, rfl, rfl⟩ := trodAll_nil r2
  obtain rfl : args = #[v0, v1, v2] := by cases args; simp_all
  obtain ⟨rfl, rfl⟩ := trodVars_none hV
  obtain ⟨a0, n0, c0, rfl⟩ := okWide_slice Tryz.underlying22 (hval 0 22 v0 rfl rfl)
  obtain ⟨x0, hr0⟩ := row_items h0
  obtain ⟨x1, rfl, rfl, rfl, wx1⟩ := open_int Tryz.underlying3 (hval 1 3 v1 rfl rfl) h1
  obtain ⟨a2, n2, c2, rfl⟩ := okWide_slice Tryz.underlying22 (hval 2 22 v2 rfl rfl)
  obtain ⟨x2, hr2⟩ := row_items h2
  simp only [List.append_nil] at hW'
  refine (law_Product x0 x1 x2 _ _ W hr0 hr2).mono fun e W' ⟨he, hb⟩ => ?_
  subst he
  exact ⟨_, rfl, _, _, _, [], _, [], hW', trodAll_mk1 (shut_bool Tryz.underlying4 _), (trodAll_cons_mk (trod_again (of_decide_eq_true (by kernel_rfl)) hb h0) (trodAll_cons_mk (shut_int Tryz.underlying3 wx1) (trodAll_cons_mk (trod_again (of_decide_eq_true (by kernel_rfl)) hb h2) trodAll_mk0))), rfl, hb.frame _, fun h => by cases h⟩

theorem k1 : Rows.fnProductRow.wf (OpenSpec.ofChange Rows.fnProductSpec) = true := by kernel_rfl
theorem k4 : Tryz.f3.params.all (Tryz.prog.readableRec ·) = true := by kernel_rfl
theorem k5 : namedTie Tryz.prog Rows.fnProductRow.named Rows.fnProductSpec.vars = true := by kernel_rfl
theorem k6 : (Rows.fnProductRow.stops == []) = true := by kernel_rfl
theorem k8 : (Rows.fnProductRow.knobs == []) = true := by kernel_rfl
theorem k10 : (Rows.fnProductRow.inPlace == Tryz.prog.inPlace 3) = true := by kernel_rfl
theorem k11 : (Rows.fnProductRow.unfollowed == Tryz.prog.unfollowed 3) = true := by kernel_rfl
theorem k12 : (Rows.fnProductRow.recurses == Tryz.prog.recurses 3) = true := by kernel_rfl
theorem k13 : (Rows.fnProductRow.named == Tryz.prog.varsNamed 3) = true := by kernel_rfl
theorem k14 : (Rows.fnProductRow.maps == (Tryz.f3.params.toList ++ Rows.fnProductSpec.plain.varTypes Tryz.prog).any (Tryz.prog.mapsRec ·)) = true := by kernel_rfl
theorem k15 : (Rows.fnProductRow.ifaces == (Tryz.f3.params.toList ++ Rows.fnProductSpec.plain.varTypes Tryz.prog).any (Tryz.prog.ifacesRec ·)) = true := by kernel_rfl
theorem k16 : (Rows.fnProductRow.mapsOut == Tryz.prog.mapsAmong Tryz.f3.resultTypes.toList) = true := by kernel_rfl
theorem k17 : (Rows.fnProductRow.loops == (Tryz.f3.params.toList ++ Rows.fnProductSpec.plain.varTypes Tryz.prog).any (Tryz.prog.loopsFrom ·)) = true := by kernel_rfl
theorem k17b : (Rows.fnProductRow.wideKeys == (Tryz.f3.params.toList ++ Rows.fnProductSpec.plain.varTypes Tryz.prog ++ Tryz.f3.resultTypes.toList).any (Tryz.prog.wideKeysFrom ·)) = true := by kernel_rfl
theorem k18 : Rows.fnProductSpec.vars.all (Tryz.prog.varReadable ·) = true := by kernel_rfl
theorem k19 : Tryz.f3.resultTypes.all (fun t => Tryz.prog.readableRec t && decide (t < Tryz.prog.types.size)) = true := by kernel_rfl
theorem k20 : (Rows.fnProductRow.ifacesOut == Tryz.f3.resultTypes.toList.any (Tryz.prog.ifacesRec ·)) = true := by kernel_rfl
theorem k21 : (Rows.fnProductRow.loopsOut == Tryz.f3.resultTypes.toList.any (Tryz.prog.loopsFrom ·)) = true := by kernel_rfl
theorem k22 : (Rows.fnProductRow.plainKeys == Tryz.prog.plainKeys) = true := by kernel_rfl
theorem k23 : Rows.fnProductRow.shortTexts.isNone = true := by kernel_rfl
theorem k24b : (Rows.fnProductRow.lifted == Tryz.prog.liftsFinal) = true := by kernel_rfl
theorem k24c : (Tryz.prog.make == some Rows.fnProductRow.make) = true := by kernel_rfl
theorem k25 : kindsFact Tryz.prog Tryz.f3 Rows.fnProductRow = true := by kernel_rfl
theorem k26 : (Rows.fnProductRow.pinned == Rows.fnProductRow.pinnedBy) = true := by kernel_rfl
theorem k27 : (Rows.fnProductRow.veiled == (Tryz.f3.params.toList ++ Rows.fnProductSpec.plain.varTypes Tryz.prog ++ Tryz.f3.resultTypes.toList).any (Tryz.prog.veiledRec ·)) = true := by kernel_rfl
theorem k28 : Rows.fnProductRow.veiledFits Tryz.prog Tryz.f3.params.toList (Tryz.f3.params.toList ++ Rows.fnProductSpec.plain.varTypes Tryz.prog ++ Tryz.f3.resultTypes.toList) = true := by kernel_rfl
theorem closed : joinedFacts Tryz.prog 3 Tryz.f3 Rows.fnProductSpec Rows.fnProductRow = true :=
  joined_of k1 fa_laidOut fa_mapsRowed k4 k5 k6 fa_stops k8 fa_stopKnobs k10 k11 k12 k13 k14 k15 k16 k17 k17b k18 k19 k20 k21 k22 k23 fa_heard fa_mayEnter k24b k24c k25 k26 k27 k28

theorem fnamed : Tryz.prog.funcNamed "pub-tallysheet/laws.FnProduct" = some 3 := by kernel_rfl
theorem wrapper : Tryz.f3.isWrapper Tryz.prog Rows.fnProductRow.wrapper Rows.fnProductRow.mainSum := by
  unfold Func.isWrapper; first | (rw [if_pos (by decide +kernel)]; kernel_rfl) | (rw [if_neg (by decide +kernel)]; exact ⟨rfl, rfl⟩)
theorem holds : Rows.FnProductSaid :=
  OpenClaim.holds_of_wide 3 Tryz.f3 rfl rfl rfl rfl rfl rfl rfl ⟨rfl, rfl, rfl, rfl, rfl⟩ rfl rfl rfl rfl rfl fnamed Tryz.func3 closed
    (of_decide_eq_true (by kernel_rfl)) wrapper
    (fun os started H enc _ => lifted os started H enc)

theorem byText : Rows.fnProductRow.wfByText (OpenSpec.ofChange Rows.fnProductSpec) = true := by kernel_rfl
theorem mainIs : Tryz.pinned.checked.prog.mainIs = some (true, "7c42bc3fa5672a00409c599e565320a348e7feb70f7a1766d109ffd3729c24e0".toList) := by kernel_rfl
theorem looks : true = Tryz.prog.looks [] := by kernel_rfl
theorem goes : false = Rows.fnProductRow.goesBy Tryz.prog := by kernel_rfl
theorem plain : ([22, 3, 22].all fun u => !Tryz.prog.wantsStandIn u) = true := by kernel_rfl

/-- ████ THE STATEMENT: THE TIED CARD ████ -/
theorem card : Rows.FnProductCardSaid :=
  Claim7.holds_tied_plain_at .later [] [.data, .data, .widerDeep, .widerDeep, .data, .data, .data, .data, .data, .sentinel, .sentinel, .pinned, .pinned] true (true, "7c42bc3fa5672a00409c599e565320a348e7feb70f7a1766d109ffd3729c24e0") true holds (fun _ h => by cases h) byText (fun _ h => by cases h) fnProduct_row_tie rfl ⟨rfl, rfl⟩ mainIs rfl
    (fun f fn hf hfn => by
      obtain rfl : f = 3 := Option.some.inj (fnamed.symm.trans hf) |>.symm
      obtain rfl : fn = Tryz.f3 := (Option.some.inj (Tryz.func3.symm.trans hfn)).symm
      exact ⟨looks, fun j t ht => by
        rw [Tryz.params3] at ht
        have hm : t ∈ [22, 3, 22] := by simpa using Array.mem_of_getElem? ht
        exact (show Tryz.prog.wantsStandIn t = false by simpa using List.all_eq_true.1 plain t hm)⟩)
    goes
#print axioms card
end Go.Proofs.YtkglbccdiofnkaaGreatDoor.fnProduct
