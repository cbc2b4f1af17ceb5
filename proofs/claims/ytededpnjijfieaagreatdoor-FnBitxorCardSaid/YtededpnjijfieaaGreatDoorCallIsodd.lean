/-
ISODD of the reference.
-/
import Derived.Test.YtededpnjijfieaaGreatDoorNoIsodd
import Derived.Test.YtededpnjijfieaaGreatDoorOver
namespace Go.Proofs.YtededpnjijfieaaGreatDoor
open Go.RowKit

set_option maxRecDepth 100000 in
set_option maxHeartbeats 2000000 in
theorem fitsChoices_Isodd (x : FV) (v : Value) (w : World) (hr : Row w w.heap.size 5 v [FV.list x]) :
    Calls Tryz.prog 80 #[.string ⟨#[73, 83, 79, 68, 68]⟩, v] w fun e w' => e = .returned (.tuple #[.bool (x.kind == 1), .bool true]) ∧ Below w.heap.size w w' := by
  obtain ⟨g, o, c, rfl, hc1, hg, hcell⟩ := hr.single
  have q0 := hcell 0 _ rfl
  simp only [Nat.add_zero] at q0
  have hu26 := Tryz.underlying26
  clear hcell hr
  go_enter Tryz.func80, Tryz.ntmps80
  go_wp2
  go_ret2
  exact ⟨rfl, (Below.refl _ _).alloc (Nat.le_refl _) _⟩

set_option maxRecDepth 100000 in
set_option maxHeartbeats 2000000 in
theorem fits_Isodd (x : FV) (v : Value) (w : World) (hr : Row w w.heap.size 5 v [FV.list x]) (h2 : x.kind ≠ 2) :
    Calls Tryz.prog 54 #[.string ⟨#[73, 83, 79, 68, 68]⟩, v] w fun e w' => e = .returned (.bool (x.kind == 1)) ∧ Below w.heap.size w w' := by
  obtain ⟨A, n, c, rfl⟩ : ∃ A n c, v = .slice A n c := by
    obtain ⟨A, c, h, _⟩ := hr
    exact ⟨A, _, c, h⟩
  have hr' : Row w w.heap.size 5 (.slice A n c) ([x].map FV.list) := hr
  have HR := Lib.hid hr'
  have HV : Hid (∀ W, Row W W.heap.size 5 (.slice A n c) ([x].map FV.list) → Calls Tryz.prog 160 #[.slice A n c, .func (.func 161) #[] #[]] W fun e w' => (∃ b, e = .returned (.bool b)) ∧ Below W.heap.size W w') :=
    fun W hW => (every_numeric [x] _ W hW (by simp) (by simpa using h2)).mono fun e w' ⟨he, hb⟩ => ⟨⟨_, he⟩, hb⟩
  clear hr hr'
  go_enter Tryz.func54, Tryz.ntmps54
  go_wp2_with (first
    | (go_at_call 78; refine (fitsNumbers_Isodd [x] _ _ HR.out HV.out).mono ?_; rintro e w1 ⟨rfl, hb1⟩)
    | (go_at_call 79; refine (fitsTexts_Isodd _ _ _ _).mono ?_; rintro e w2 ⟨rfl, hb2⟩)
    | (go_at_call 80; refine (fitsChoices_Isodd x _ _ ((HR.out.below (hb1.trans (hb2.mono hb1.size))).more (Nat.le_trans hb1.size hb2.size))).mono ?_; rintro e w3 ⟨rfl, hb3⟩))
  go_ret
  exact ⟨rfl, hb1.trans ((hb2.mono hb1.size).trans (hb3.mono (Nat.le_trans hb1.size hb2.size)))⟩

/-- A truth of the reference. -/
def bv (b : Bool) : FV := ⟨3, if b then 1 else 0, 0, ⟨#[]⟩⟩
theorem bool_any (b : Bool) (w : World) :
    Calls Tryz.prog 38 #[.bool b] w fun e w' => e = .returned (.agg #[.int .i64 3, .int .i64 (bv b).num, .int .i64 0, .string ⟨#[]⟩, .slice none 0 0]) ∧ Below w.heap.size w w' := by
  cases b
  · go_enter Tryz.func38, Tryz.ntmps38
    go_wp2
    exact bodyPost_ret (v := .agg #[.int .i64 3, .int .i64 0, .int .i64 0, .string ⟨#[]⟩, .slice none 0 0]) (by simp [results, Tryz.results38, go_sem]) rfl ⟨rfl, (Below.refl _ _).alloc (Nat.le_refl _) _⟩
  · go_enter Tryz.func38, Tryz.ntmps38
    go_wp2
    exact bodyPost_ret (v := .agg #[.int .i64 3, .int .i64 1, .int .i64 0, .string ⟨#[]⟩, .slice none 0 0]) (by simp [results, Tryz.results38, go_sem]) rfl ⟨rfl, (Below.refl _ _).alloc (Nat.le_refl _) _⟩

theorem bd_tdiv (n d : Int) (h1 : n ≤ 99999999999) (h2 : -99999999999 ≤ n) (hd : 0 < d) : n.tdiv d ≤ 99999999999 ∧ -99999999999 ≤ n.tdiv d := by
  rw [tdiv_of]
  split
  · have := Int.ediv_le_self (a := n) d (by omega)
    have := Int.ediv_nonneg (a := n) (b := d) (by omega) (by omega)
    omega
  · have := Int.ediv_le_self (a := -n) d (by omega)
    have := Int.ediv_nonneg (a := -n) (b := d) (by omega) (by omega)
    omega

theorem toward_any (n d : Int) (w : World) (_hd : ¬ d = 0) :
    Calls Tryz.prog 206 #[.int .i64 n, .int .i64 d] w fun e w' => e = .returned (.int .i64 (wrap64 (n.tdiv d))) ∧ w = w' := by
  go_enter Tryz.func206, Tryz.ntmps206
  go_wp2
  go_ret
  exact ⟨rfl, rfl⟩

set_option maxRecDepth 100000 in
set_option maxHeartbeats 2000000 in
theorem parity_Isodd (x : FV) (v : Value) (w : World) (hr : Row w w.heap.size 5 v [FV.list x]) (h1 : x.kind = 1) (hn1 : x.num ≤ 99999999999) (hn2 : -99999999999 ≤ x.num) (hd : 0 < x.den) (hd2 : x.den ≤ 16) :
    Calls Tryz.prog 142 #[.string ⟨#[73, 83, 79, 68, 68]⟩, v] w fun e w' => e = .returned (.agg #[.int .i64 3, .int .i64 (bv (decide (x.num.tdiv x.den % 2 ≠ 0))).num, .int .i64 0, .string ⟨#[]⟩, .slice none 0 0]) ∧ Below w.heap.size w w' := by
  obtain ⟨g, o, c, rfl, hc1, hg, hcell⟩ := hr.single
  have q0 := hcell 0 _ rfl
  have q1 := hcell 1 _ rfl
  have q2 := hcell 2 _ rfl
  have q3 := hcell 3 _ rfl
  have q4 := hcell 4 _ rfl
  simp only [Nat.add_zero] at q0
  rw [h1] at q0
  have hu26 := Tryz.underlying26
  obtain ⟨b1, b2⟩ := bd_tdiv x.num x.den hn1 hn2 hd
  have hw : wrap64 (x.num.tdiv x.den) = x.num.tdiv x.den := by unfold wrap64; omega
  have hdz : ¬ x.den = 0 := by omega
  clear hcell hr h1
  obtain ⟨t, ht⟩ : ∃ t, t = x.num.tdiv x.den := ⟨_, rfl⟩
  rw [← ht] at b1 b2 hw ⊢
  have HT : Hid (wrap64 (x.num.tdiv x.den) = t) := by rw [Hid, ← ht]; exact hw
  clear ht hw
  by_cases h2 : t % 2 = 0
  · have t1 := tmod2_even t h2
    have hd3 : Hid (decide (t % 2 ≠ 0) = false) := by simp [Hid, h2]
    rw [hd3.out]
    clear h2
    go_enter Tryz.func142, Tryz.ntmps142
    go_wp2_with (first
      | (go_at_call 206; refine (toward_any _ _ _ hdz).mono ?_; rintro e w1 ⟨rfl, rfl⟩; rw [HT.out])
      | (go_at_call 38; refine (bool_any _ _).mono ?_; rintro e w2 ⟨rfl, hb2⟩; obtain ⟨cb, fb, zb, kb⟩ := box_cells (heap_new2a _ _ _) hb2))
    refine bodyPost_ret (v := .agg #[.int .i64 3, .int .i64 (bv false).num, .int .i64 0, .string ⟨#[]⟩, .slice none 0 0]) (by simp [results, Tryz.results142, go_sem, cb]) rfl ⟨rfl, ?_⟩
    have pb := below_two hb2
    clear cb fb
    (repeat refine below_set0 ?_ _ _)
    exact pb
  · have t1 := tmod2_odd t h2
    have hd3 : Hid (decide (t % 2 ≠ 0) = true) := by simp [Hid, h2]
    rw [hd3.out]
    clear h2
    go_enter Tryz.func142, Tryz.ntmps142
    go_wp2_with (first
      | (go_at_call 206; refine (toward_any _ _ _ hdz).mono ?_; rintro e w1 ⟨rfl, rfl⟩; rw [HT.out])
      | (go_at_call 38; refine (bool_any _ _).mono ?_; rintro e w2 ⟨rfl, hb2⟩; obtain ⟨cb, fb, zb, kb⟩ := box_cells (heap_new2a _ _ _) hb2))
    refine bodyPost_ret (v := .agg #[.int .i64 3, .int .i64 (bv true).num, .int .i64 0, .string ⟨#[]⟩, .slice none 0 0]) (by simp [results, Tryz.results142, go_sem, cb]) rfl ⟨rfl, ?_⟩
    have pb := below_two hb2
    clear cb fb
    (repeat refine below_set0 ?_ _ _)
    exact pb

set_option maxRecDepth 100000 in
set_option maxHeartbeats 2000000 in
theorem callInfo_Isodd (x : FV) (v : Value) (w : World) (hr : Row w w.heap.size 5 v [FV.list x]) (h1 : x.kind = 1) (hn1 : x.num ≤ 99999999999) (hn2 : -99999999999 ≤ x.num) (hd : 0 < x.den) (hd2 : x.den ≤ 16) :
    Calls Tryz.prog 61 #[.string ⟨#[73, 83, 79, 68, 68]⟩, v] w fun e w' => e = .returned (.tuple #[.agg #[.int .i64 3, .int .i64 (bv (decide (x.num.tdiv x.den % 2 ≠ 0))).num, .int .i64 0, .string ⟨#[]⟩, .slice none 0 0], .bool true]) ∧ Below w.heap.size w w' := by
  have HP : Hid (∀ W, Below w.heap.size w W → Calls Tryz.prog 142 #[.string ⟨#[73, 83, 79, 68, 68]⟩, v] W fun e w' => e = .returned (.agg #[.int .i64 3, .int .i64 (bv (decide (x.num.tdiv x.den % 2 ≠ 0))).num, .int .i64 0, .string ⟨#[]⟩, .slice none 0 0]) ∧ Below W.heap.size W w') :=
    fun W hW => parity_Isodd x v W ((hr.below hW).more hW.size) h1 hn1 hn2 hd hd2
  clear hr h1 hn1 hn2 hd hd2
  go_enter Tryz.func61, Tryz.ntmps61
  go_wp2_with (go_at_call 142; refine (HP.out _ ((Below.refl _ _).alloc (Nat.le_refl _) _)).mono ?_; rintro e w1 ⟨rfl, hb1⟩; obtain ⟨c1, f1, z1, k1⟩ := box_cells (heap_new1 _ _) hb1)
  refine bodyPost_ret (v := .tuple #[.agg #[.int .i64 3, .int .i64 (bv (decide (x.num.tdiv x.den % 2 ≠ 0))).num, .int .i64 0, .string ⟨#[]⟩, .slice none 0 0], .bool true]) (by simp [results, Tryz.results61, go_sem, c1]) rfl ⟨rfl, ?_⟩
  have pb := below_one hb1
  clear c1 f1
  (repeat refine below_set0 ?_ _ _)
  exact pb

/-- ISODD of the reference, of a number. -/
theorem call_Isodd (x : FV) (v : Value) (w : World) (hr : Row w w.heap.size 5 v [FV.list x]) (h1 : x.kind = 1) (hn1 : x.num ≤ 99999999999) (hn2 : -99999999999 ≤ x.num) (hd : 0 < x.den) (hd2 : x.den ≤ 16) :
    Calls Tryz.prog 23 #[.string ⟨#[73, 83, 79, 68, 68]⟩, v] w fun e w' => e = .returned (.agg #[.int .i64 3, .int .i64 (bv (decide (x.num.tdiv x.den % 2 ≠ 0))).num, .int .i64 0, .string ⟨#[]⟩, .slice none 0 0]) ∧ Below w.heap.size w w' := by
  refine call_any _ v w _ _ _ _ _ _ _ fun W0 hW0 => ?_
  have hr0 := (hr.below hW0).more hW0.size
  refine callOver_CallInfo _ v W0 _ _ _ _ _ _ _ ?_ ?_ ?_ ?_ ?_ ?_ ?_ ?_
  · intro W hW
    have := fits_Isodd x v W ((hr0.below hW).more hW.size) (by omega)
    rw [h1] at this
    exact this
  · exact fun W _ => stat_Isodd v W
  · exact fun W _ => criteria_Isodd v W
  · exact fun W _ => lookup_Isodd v W
  · exact fun W _ => callMath_Isodd v W
  · exact fun W _ => callText_Isodd v W
  · exact fun W _ => callLogic_Isodd v W
  · exact fun W hW => callInfo_Isodd x v W ((hr0.below hW).more hW.size) h1 hn1 hn2 hd hd2

/-- ISODD of the reference says nothing of what is no number. -/
theorem call_Isodd_no (x : FV) (v : Value) (w : World) (hr : Row w w.heap.size 5 v [FV.list x]) (h1 : x.kind ≠ 1) (h2 : x.kind ≠ 2) :
    Calls Tryz.prog 23 #[.string ⟨#[73, 83, 79, 68, 68]⟩, v] w fun e w' => e = .returned (.agg #[.int .i64 6, .int .i64 0, .int .i64 0, .string ⟨#[]⟩, .slice none 0 0]) ∧ Below w.heap.size w w' := by
  refine call_any _ v w _ _ _ _ _ _ _ fun W0 hW0 => ?_
  have hr0 := (hr.below hW0).more hW0.size
  refine callOver_no _ v W0 fun W hW => ?_
  have := fits_Isodd x v W ((hr0.below hW).more hW.size) h2
  have e : (x.kind == 1) = false := by simpa using h1
  rw [e] at this
  exact this

end Go.Proofs.YtededpnjijfieaaGreatDoor
