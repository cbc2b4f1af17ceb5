/-
INT of the reference.
-/
import Derived.Test.YtededpnjijfieaaGreatDoorNoInt
import Derived.Test.YtededpnjijfieaaGreatDoorBtw
import Derived.Test.YtededpnjijfieaaGreatDoorFits
import Derived.Test.YtededpnjijfieaaGreatDoorWhole
import Derived.Test.YtededpnjijfieaaGreatDoorCallIsodd
namespace Go.Proofs.YtededpnjijfieaaGreatDoor
open Go.RowKit

set_option maxRecDepth 100000 in
set_option maxHeartbeats 2000000 in
theorem fitsNumbers_Int (x : FV) (v : Value) (w : World) (hr : Row w w.heap.size 5 v [FV.list x]) (h2 : x.kind ≠ 2) (B : Bool) (hE : [x].all numB = B) :
    Calls Tryz.prog 78 #[.string ⟨#[73, 78, 84]⟩, v] w fun e w' => e = .returned (.tuple #[.bool B, .bool true]) ∧ Below w.heap.size w w' := by
  have hr1 : Row w w.heap.size 5 v ([x].map FV.list) := hr
  have HR := Lib.hid hr1
  have H2 := Lib.hid h2
  have HE := Lib.hid hE
  obtain ⟨g, o, c, rfl, hc1, hg, hcell⟩ := hr.single
  clear hcell hr hr1 h2 hE
  go_enter Tryz.func78, Tryz.ntmps78
  go_wp2_with (go_at_call 160; refine (every_numeric [x] _ _ HR.out (by simp) (by simpa using H2.out)).mono ?_; rintro e w1 ⟨rfl, hb1⟩; rw [HE.out])
  go_ret2
  exact ⟨rfl, hb1⟩

theorem fdiv_cases (n d : Int) (hd : d = 1 ∨ d = 2 ∨ d = 4 ∨ d = 8 ∨ d = 16) : n.tdiv d = if n.tmod d < 0 then n / d + 1 else n / d := by
  rw [tdiv_of, tmod_of]
  rcases hd with rfl | rfl | rfl | rfl | rfl <;> (repeat split) <;> omega

set_option maxRecDepth 100000 in
theorem floor_any (n d : Int) (w : World) (h1 : n ≤ 1125899906842624) (h2 : -1125899906842624 ≤ n) (hd : d = 1 ∨ d = 2 ∨ d = 4 ∨ d = 8 ∨ d = 16) :
    Calls Tryz.prog 205 #[.int .i64 n, .int .i64 d] w fun e w' => e = .returned (.int .i64 (n / d)) ∧ w = w' := by
  have hc := fdiv_cases n d hd
  have hb : n / d ≤ 1125899906842624 ∧ -1125899906842624 ≤ n / d := by rcases hd with rfl | rfl | rfl | rfl | rfl <;> omega
  have hdz : ¬ d = 0 := by omega
  by_cases hm : n.tmod d < 0
  · rw [if_pos hm] at hc
    obtain ⟨q, hq⟩ : ∃ q, q = n / d := ⟨_, rfl⟩
    have hw : wrap64 (n.tdiv d) = q + 1 := by rw [hc, ← hq]; unfold wrap64; omega
    have hw' : Hid (wrap64 (n.tdiv d - 1) = q) := by rw [Hid, hc, ← hq]; unfold wrap64; omega
    clear hw
    rw [← hq] at hb ⊢
    clear hc hq
    go_enter Tryz.func205, Tryz.ntmps205
    go_wp2
    go_ret
    exact ⟨congrArg (fun z => Ending.returned (.int .i64 z)) hw'.out, rfl⟩
  · rw [if_neg hm] at hc
    obtain ⟨q, hq⟩ : ∃ q, q = n / d := ⟨_, rfl⟩
    have hw : Hid (n.tdiv d = q) := by rw [Hid, hc, ← hq]
    rw [← hq] at hb ⊢
    clear hc hq
    go_enter Tryz.func205, Tryz.ntmps205
    go_wp2
    go_ret
    exact ⟨congrArg (fun z => Ending.returned (.int .i64 z)) hw.out, rfl⟩

/-- What INT of a number is. -/
def rInt (x : FV) : FV := if x.kind = 1 then ⟨1, x.num / x.den, 1, ⟨#[]⟩⟩ else ⟨6, 0, 0, ⟨#[]⟩⟩

set_option maxRecDepth 100000 in
set_option maxHeartbeats 2000000 in
theorem one_Int (x : FV) (v : Value) (w : World) (hr : Row w w.heap.size 5 v [FV.list x]) (h1 : x.kind = 1) (hx : x.ok) :
    Calls Tryz.prog 114 #[.string ⟨#[73, 78, 84]⟩, v] w fun e w' => e = .returned (.agg #[.int .i64 1, .int .i64 (x.num / x.den), .int .i64 1, .string ⟨#[]⟩, .slice none 0 0]) ∧ Below w.heap.size w w' := by
  have hr1 : Row w w.heap.size 5 v ([x].map FV.list) := hr
  have HR := Lib.hid hr1
  obtain ⟨g, o, c, rfl, hc1, hg, hcell⟩ := hr.single
  have hu26 := Tryz.underlying26
  have H1 := Lib.hid h1
  obtain ⟨b1, b2, b3⟩ := hx.number h1
  have B3 := Lib.hid b3
  have hq : x.num / x.den ≤ 99999999999 ∧ -99999999999 ≤ x.num / x.den := by rcases b3 with h | h | h | h | h <;> rw [h] <;> omega
  obtain ⟨q, hqq⟩ : ∃ q, q = x.num / x.den := ⟨_, rfl⟩
  have HQ : Hid (x.num / x.den = q) := hqq.symm
  rw [← hqq] at hq ⊢
  clear hcell hr hr1 h1 hx b3 hqq
  go_enter Tryz.func114, Tryz.ntmps114
  go_wp2_with (go_at_call 204; refine (numbers_num [x] _ _ ((HR.out.below ((Below.refl _ _).alloc (Nat.le_refl _) _)).more (by simp)) (by simpa using H1.out) (by simp)).mono ?_; rintro e w1 ⟨v1, rfl, hR1, hb1⟩; obtain ⟨g1, o1, cc1, rfl, hcc1, hg1, hcell1⟩ := Row.single hR1; have q1 := hcell1 1 _ rfl; have q2 := hcell1 2 _ rfl; obtain ⟨c1, f1, z1, k1⟩ := box_cells (heap_new1 _ _) hb1; clear hcell1 hR1)
  go_quiet (fail)
  go_wp2_with (first
    | (go_at_call 205; refine (floor_any _ _ _ (by omega) (by omega) B3.out).mono ?_; rintro e w2 ⟨rfl, rfl⟩; rw [HQ.out])
    | (go_at_call 33; refine (int_small _ _ hq.1 hq.2).mono ?_; rintro e w2 ⟨rfl, hb2⟩; have hb2' := Below.ofDrewN hb2; obtain ⟨c2, f2, z2, k2⟩ := box_later k1 hb2'; clear c1 f1))
  refine bodyPost_ret (v := .agg #[.int .i64 1, .int .i64 q, .int .i64 1, .string ⟨#[]⟩, .slice none 0 0]) (by simp [results, Tryz.results114, go_sem, c2]) rfl ⟨rfl, ?_⟩
  have pb := below_box (below_one hb1) (below_one hb1).size hb2'
  clear c2 f2
  (repeat refine below_set0 ?_ _ _)
  exact pb

set_option maxRecDepth 100000 in
set_option maxHeartbeats 2000000 in
theorem callMath_Int (x : FV) (v : Value) (w : World) (hr : Row w w.heap.size 5 v [FV.list x]) (h1 : x.kind = 1) (hx : x.ok) :
    Calls Tryz.prog 58 #[.string ⟨#[73, 78, 84]⟩, v] w fun e w' => e = .returned (.tuple #[.agg #[.int .i64 1, .int .i64 (x.num / x.den), .int .i64 1, .string ⟨#[]⟩, .slice none 0 0], .bool true]) ∧ Below w.heap.size w w' := by
  have HP : Hid (∀ W, Below w.heap.size w W → Calls Tryz.prog 114 #[.string ⟨#[73, 78, 84]⟩, v] W fun e w' => e = .returned (.agg #[.int .i64 1, .int .i64 (x.num / x.den), .int .i64 1, .string ⟨#[]⟩, .slice none 0 0]) ∧ Below W.heap.size W w') :=
    fun W hW => one_Int x v W ((hr.below hW).more hW.size) h1 hx
  obtain ⟨q, hq⟩ : ∃ q, q = x.num / x.den := ⟨_, rfl⟩
  rw [← hq] at HP ⊢
  clear hr h1 hx hq
  go_enter Tryz.func58, Tryz.ntmps58
  go_wp2_with (go_at_call 114; refine (HP.out _ ((Below.refl _ _).alloc (Nat.le_refl _) _)).mono ?_; rintro e w1 ⟨rfl, hb1⟩; obtain ⟨c1, f1, z1, k1⟩ := box_cells (heap_new1 _ _) hb1)
  refine bodyPost_ret (v := .tuple #[.agg #[.int .i64 1, .int .i64 q, .int .i64 1, .string ⟨#[]⟩, .slice none 0 0], .bool true]) (by simp [results, Tryz.results58, go_sem, c1]) rfl ⟨rfl, ?_⟩
  have pb := below_one hb1
  clear c1 f1
  (repeat refine below_set0 ?_ _ _)
  exact pb

/-- INT of the reference, of a number. -/
theorem call_Int (x : FV) (v : Value) (w : World) (hr : Row w w.heap.size 5 v [FV.list x]) (h1 : x.kind = 1) (hx : x.ok) :
    Calls Tryz.prog 23 #[.string ⟨#[73, 78, 84]⟩, v] w fun e w' => e = .returned (.agg #[.int .i64 1, .int .i64 (x.num / x.den), .int .i64 1, .string ⟨#[]⟩, .slice none 0 0]) ∧ Below w.heap.size w w' := by
  refine call_any _ v w _ _ _ _ _ _ _ fun W0 hW0 => ?_
  have hr0 := (hr.below hW0).more hW0.size
  have hE : [x].all numB = true := by simp [numB, h1]
  refine callOver_CallMath _ v W0 _ _ _ _ _ _ _ ?_ ?_ ?_ ?_ ?_
  · exact fun W hW => fits_Numbers _ v W _ fun W' hW' => fitsNumbers_Int x v W' ((((hr0.below hW).more hW.size).below hW').more hW'.size) (by omega) true hE
  · exact fun W _ => stat_Int v W
  · exact fun W _ => criteria_Int v W
  · exact fun W _ => lookup_Int v W
  · exact fun W hW => callMath_Int x v W ((hr0.below hW).more hW.size) h1 hx

theorem call_Int_no (x : FV) (v : Value) (w : World) (hr : Row w w.heap.size 5 v [FV.list x]) (h1 : x.kind = 6) :
    Calls Tryz.prog 23 #[.string ⟨#[73, 78, 84]⟩, v] w fun e w' => e = .returned (.agg #[.int .i64 6, .int .i64 0, .int .i64 0, .string ⟨#[]⟩, .slice none 0 0]) ∧ Below w.heap.size w w' := by
  refine call_any _ v w _ _ _ _ _ _ _ fun W0 hW0 => ?_
  have hr0 := (hr.below hW0).more hW0.size
  have hE : [x].all numB = false := by simp [numB, h1]
  exact callOver_no _ v W0 fun W hW => fits_Numbers _ v W _ fun W' hW' => fitsNumbers_Int x v W' ((((hr0.below hW).more hW.size).below hW').more hW'.size) (by omega) false hE

end Go.Proofs.YtededpnjijfieaaGreatDoor
