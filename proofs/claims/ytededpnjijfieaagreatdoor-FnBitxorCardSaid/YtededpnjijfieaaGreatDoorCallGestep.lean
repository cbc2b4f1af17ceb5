/-
GESTEP of the reference.
-/
import Derived.Test.YtededpnjijfieaaGreatDoorNoGestep
import Derived.Test.YtededpnjijfieaaGreatDoorBtw
import Derived.Test.YtededpnjijfieaaGreatDoorFits
import Derived.Test.YtededpnjijfieaaGreatDoorWhole
import Derived.Test.YtededpnjijfieaaGreatDoorCallIsodd
namespace Go.Proofs.YtededpnjijfieaaGreatDoor
open Go.RowKit

/-- Two elements of five cells. -/
theorem Row.pair {w : World} {B : Nat} {v : Value} {x y : List Value} (h : Row w B 5 v [x, y]) :
    ∃ g o c, v = .slice (some ⟨g, o, none⟩) 2 c ∧ 2 ≤ c ∧ g < B ∧ (∀ j u, x[j]? = some u → w.cell? ⟨g, o + j, none⟩ = some u) ∧ (∀ j u, y[j]? = some u → w.cell? ⟨g, o + 5 + j, none⟩ = some u) := by
  obtain ⟨A, c, h1, h2, h3, h4⟩ := h
  obtain ⟨g, o, rfl, hg, hc⟩ := h4 (by simp)
  exact ⟨g, o, c, h1, h2, hg, fun j u hu => by have := hc 0 x rfl j u hu; simpa using this, fun j u hu => by have := hc 1 y rfl j u hu; simpa using this⟩

set_option maxRecDepth 100000 in
set_option maxHeartbeats 2000000 in
theorem fitsNumbers_Gestep (x y : FV) (v : Value) (w : World) (hr : Row w w.heap.size 5 v [FV.list x, FV.list y]) (h2 : x.kind ≠ 2) (h2' : y.kind ≠ 2) (B : Bool) (hE : [x, y].all numB = B) :
    Calls Tryz.prog 78 #[.string ⟨#[71, 69, 83, 84, 69, 80]⟩, v] w fun e w' => e = .returned (.tuple #[.bool B, .bool true]) ∧ Below w.heap.size w w' := by
  have hr1 : Row w w.heap.size 5 v ([x, y].map FV.list) := hr
  have HR := Lib.hid hr1
  have H2 : Hid (x.kind ≠ 2 ∧ y.kind ≠ 2) := ⟨h2, h2'⟩
  have HE := Lib.hid hE
  obtain ⟨g, o, c, rfl, hc1, hg, hcell, hcell'⟩ := hr.pair
  clear hcell hcell' hr hr1 h2 h2' hE
  go_enter Tryz.func78, Tryz.ntmps78
  go_wp2_with (go_at_call 160; refine (every_numeric [x, y] _ _ HR.out (by simp) (by simpa using H2.out)).mono ?_; rintro e w1 ⟨rfl, hb1⟩; rw [HE.out])
  go_ret2
  exact ⟨rfl, hb1⟩

theorem wrap_prod (n d : Int) (h1 : n ≤ 99999999999) (h2 : -99999999999 ≤ n) (hd : d = 1 ∨ d = 2 ∨ d = 4 ∨ d = 8 ∨ d = 16) : wrap64 (n * d) = n * d := by
  unfold wrap64
  rcases hd with rfl | rfl | rfl | rfl | rfl <;> omega

set_option maxRecDepth 100000 in
set_option maxHeartbeats 2000000 in
theorem step_Gestep (x y : FV) (v : Value) (w : World) (hr : Row w w.heap.size 5 v [FV.list x, FV.list y]) (h1 : x.kind = 1) (h1' : y.kind = 1) (hx : x.ok) (hy : y.ok) :
    Calls Tryz.prog 117 #[.string ⟨#[71, 69, 83, 84, 69, 80]⟩, v] w fun e w' => e = .returned (.agg #[.int .i64 1, .int .i64 (if y.num * x.den ≤ x.num * y.den then 1 else 0), .int .i64 1, .string ⟨#[]⟩, .slice none 0 0]) ∧ Below w.heap.size w w' := by
  have hr1 : Row w w.heap.size 5 v ([x, y].map FV.list) := hr
  have HR := Lib.hid hr1
  have H1 : Hid (∀ z ∈ [x, y], z.kind = 1) := by simpa [Hid] using ⟨h1, h1'⟩
  have HS : Hid (∀ W, Below w.heap.size w W → Calls Tryz.prog 217 #[v] W fun e w' => e = .returned (.bool true) ∧ Below W.heap.size W w') :=
    fun W hW => strict_num [x, y] v W ((hr1.below hW).more hW.size) H1.out (by simp)
  obtain ⟨g, o, c, rfl, hc1, hg, hcell, hcell'⟩ := hr.pair
  have hu26 := Tryz.underlying26
  obtain ⟨b1, b2, b3⟩ := hx.number h1
  obtain ⟨d1, d2, d3⟩ := hy.number h1'
  have hw1 := wrap_prod x.num y.den b1 b2 d3
  have hw2 := wrap_prod y.num x.den d1 d2 b3
  obtain ⟨q, hq⟩ : ∃ q : Int, q = if y.num * x.den ≤ x.num * y.den then 1 else 0 := ⟨_, rfl⟩
  have HQ := Lib.hid hq
  rw [← hq]
  clear hcell hcell' hr hr1 h1 h1' hx hy b1 b2 b3 d1 d2 d3 hq
  go_enter Tryz.func117, Tryz.ntmps117
  go_wp2_with (first
    | (go_at_call 204; refine (numbers_num [x, y] _ _ ((HR.out.below ((Below.refl _ _).alloc (Nat.le_refl _) _)).more (by simp)) H1.out (by simp)).mono ?_; rintro e w1 ⟨v1, rfl, hR1, hb1⟩; obtain ⟨g1, o1, cc1, rfl, hcc1, hg1, hx1, hy1⟩ := Row.pair hR1; have HX1 := Lib.hid hx1; have HY1 := Lib.hid hy1; obtain ⟨c1, f1, z1, k1⟩ := box_cells (heap_new1 _ _) hb1; have pb1 := below_one hb1; clear hx1 hy1 hR1)
    | (go_at_call 217; refine (HS.out _ (pb1.alloc pb1.size _)).mono ?_; rintro e w2 ⟨rfl, hb2⟩; have qb2 := below_one hb2; have q1 := (qb2.cell (p := ⟨g1, o1 + 1, none⟩) hg1).trans (HX1.out 1 _ rfl); have q2 := (qb2.cell (p := ⟨g1, o1 + 2, none⟩) hg1).trans (HX1.out 2 _ rfl); have r1 := (qb2.cell (p := ⟨g1, o1 + 5 + 1, none⟩) hg1).trans (HY1.out 1 _ rfl); have r2 := (qb2.cell (p := ⟨g1, o1 + 5 + 2, none⟩) hg1).trans (HY1.out 2 _ rfl); obtain ⟨c2, f2, z2, k2⟩ := box_later k1 hb2; have pb2 := below_box pb1 pb1.size hb2; clear c1 f1))
  go_quiet (fail)
  go_wp2_with (go_at_call 33; refine (int_small _ _ (by omega) (by omega)).mono ?_; rintro e w3 ⟨rfl, hb3⟩; have hb3' := Below.ofDrewN hb3; obtain ⟨c3, f3, z3, k3⟩ := box_cells k2 hb3'; have pb3 := below_next pb2 pb2.size hb3'; clear c2 f2)
  · have e : q = 1 := by rw [HQ.out]; exact if_pos (by omega)
    refine bodyPost_ret (v := .agg #[.int .i64 1, .int .i64 1, .int .i64 1, .string ⟨#[]⟩, .slice none 0 0]) (by simp [results, Tryz.results117, go_sem, c3]) rfl ⟨by rw [e], ?_⟩
    clear c3 f3
    (repeat refine below_set0 ?_ _ _)
    exact pb3
  · rename_i hA hB
    have e : q = 1 := by
      rw [HQ.out]
      rcases hB with h | h
      · exact absurd (by simpa using h) hA
      · exact if_pos (by omega)
    refine bodyPost_ret (v := .agg #[.int .i64 1, .int .i64 1, .int .i64 1, .string ⟨#[]⟩, .slice none 0 0]) (by simp [results, Tryz.results117, go_sem, c3]) rfl ⟨by rw [e], ?_⟩
    clear c3 f3
    (repeat refine below_set0 ?_ _ _)
    exact pb3
  · have e : q = 0 := by rw [HQ.out]; exact if_neg (by omega)
    refine bodyPost_ret (v := .agg #[.int .i64 1, .int .i64 0, .int .i64 1, .string ⟨#[]⟩, .slice none 0 0]) (by simp [results, Tryz.results117, go_sem, c3]) rfl ⟨by rw [e], ?_⟩
    clear c3 f3
    (repeat refine below_set0 ?_ _ _)
    exact pb3

set_option maxRecDepth 100000 in
set_option maxHeartbeats 2000000 in
theorem callMath_Gestep (x y : FV) (v : Value) (w : World) (hr : Row w w.heap.size 5 v [FV.list x, FV.list y]) (h1 : x.kind = 1) (h1' : y.kind = 1) (hx : x.ok) (hy : y.ok) :
    Calls Tryz.prog 58 #[.string ⟨#[71, 69, 83, 84, 69, 80]⟩, v] w fun e w' => e = .returned (.tuple #[.agg #[.int .i64 1, .int .i64 (if y.num * x.den ≤ x.num * y.den then 1 else 0), .int .i64 1, .string ⟨#[]⟩, .slice none 0 0], .bool true]) ∧ Below w.heap.size w w' := by
  have HP : Hid (∀ W, Below w.heap.size w W → Calls Tryz.prog 117 #[.string ⟨#[71, 69, 83, 84, 69, 80]⟩, v] W fun e w' => e = .returned (.agg #[.int .i64 1, .int .i64 (if y.num * x.den ≤ x.num * y.den then 1 else 0), .int .i64 1, .string ⟨#[]⟩, .slice none 0 0]) ∧ Below W.heap.size W w') :=
    fun W hW => step_Gestep x y v W ((hr.below hW).more hW.size) h1 h1' hx hy
  obtain ⟨q, hq⟩ : ∃ q : Int, q = if y.num * x.den ≤ x.num * y.den then 1 else 0 := ⟨_, rfl⟩
  rw [← hq] at HP ⊢
  clear hr h1 h1' hx hy hq
  go_enter Tryz.func58, Tryz.ntmps58
  go_wp2_with (go_at_call 117; refine (HP.out _ ((Below.refl _ _).alloc (Nat.le_refl _) _)).mono ?_; rintro e w1 ⟨rfl, hb1⟩; obtain ⟨c1, f1, z1, k1⟩ := box_cells (heap_new1 _ _) hb1)
  refine bodyPost_ret (v := .tuple #[.agg #[.int .i64 1, .int .i64 q, .int .i64 1, .string ⟨#[]⟩, .slice none 0 0], .bool true]) (by simp [results, Tryz.results58, go_sem, c1]) rfl ⟨rfl, ?_⟩
  have pb := below_one hb1
  clear c1 f1
  (repeat refine below_set0 ?_ _ _)
  exact pb

/-- GESTEP of the reference, of two numbers. -/
theorem call_Gestep (x y : FV) (v : Value) (w : World) (hr : Row w w.heap.size 5 v [FV.list x, FV.list y]) (h1 : x.kind = 1) (h1' : y.kind = 1) (hx : x.ok) (hy : y.ok) :
    Calls Tryz.prog 23 #[.string ⟨#[71, 69, 83, 84, 69, 80]⟩, v] w fun e w' => e = .returned (.agg #[.int .i64 1, .int .i64 (if y.num * x.den ≤ x.num * y.den then 1 else 0), .int .i64 1, .string ⟨#[]⟩, .slice none 0 0]) ∧ Below w.heap.size w w' := by
  refine call_any _ v w _ _ _ _ _ _ _ fun W0 hW0 => ?_
  have hr0 := (hr.below hW0).more hW0.size
  have hE : [x, y].all numB = true := by simp [numB, h1, h1']
  refine callOver_CallMath _ v W0 _ _ _ _ _ _ _ ?_ ?_ ?_ ?_ ?_
  · exact fun W hW => fits_Numbers _ v W _ fun W' hW' => fitsNumbers_Gestep x y v W' ((((hr0.below hW).more hW.size).below hW').more hW'.size) (by omega) (by omega) true hE
  · exact fun W _ => stat_Gestep v W
  · exact fun W _ => criteria_Gestep v W
  · exact fun W _ => lookup_Gestep v W
  · exact fun W hW => callMath_Gestep x y v W ((hr0.below hW).more hW.size) h1 h1' hx hy

theorem call_Gestep_no (x y : FV) (v : Value) (w : World) (hr : Row w w.heap.size 5 v [FV.list x, FV.list y]) (h1 : x.kind ≠ 2) (h1' : y.kind ≠ 2) (h6 : x.kind = 6 ∨ y.kind = 6) :
    Calls Tryz.prog 23 #[.string ⟨#[71, 69, 83, 84, 69, 80]⟩, v] w fun e w' => e = .returned (.agg #[.int .i64 6, .int .i64 0, .int .i64 0, .string ⟨#[]⟩, .slice none 0 0]) ∧ Below w.heap.size w w' := by
  refine call_any _ v w _ _ _ _ _ _ _ fun W0 hW0 => ?_
  have hr0 := (hr.below hW0).more hW0.size
  have hE : [x, y].all numB = false := by rcases h6 with h | h <;> simp [numB, h]
  exact callOver_no _ v W0 fun W hW => fits_Numbers _ v W _ fun W' hW' => fitsNumbers_Gestep x y v W' ((((hr0.below hW).more hW.size).below hW').more hW'.size) h1 h1' false hE

end Go.Proofs.YtededpnjijfieaaGreatDoor
