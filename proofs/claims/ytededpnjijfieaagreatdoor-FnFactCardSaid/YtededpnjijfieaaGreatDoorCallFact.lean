/-
FACT of the reference.
-/
import Derived.Test.YtededpnjijfieaaGreatDoorNoFact
import Derived.Test.YtededpnjijfieaaGreatDoorBtw
import Derived.Test.YtededpnjijfieaaGreatDoorFits
import Derived.Test.YtededpnjijfieaaGreatDoorMade
import Derived.Test.YtededpnjijfieaaGreatDoorFac
namespace Go.Proofs.YtededpnjijfieaaGreatDoor
open Go.RowKit

set_option maxRecDepth 100000 in
set_option maxHeartbeats 2000000 in
theorem fitsNumbers_Fact (x : FV) (b : Bool) (v : Value) (w : World) (hr : Row w w.heap.size 5 v [FV.list x]) (h2 : x.kind ≠ 2)
    (hB : ∀ W, Calls Tryz.prog 162 #[.agg #[.int .i64 x.kind, .int .i64 x.num, .int .i64 x.den, .string x.text, .slice none 0 0], .int .i64 (-99999999999), .int .i64 18] W fun e w' => e = .returned (.bool b) ∧ Below W.heap.size W w') :
    Calls Tryz.prog 78 #[.string ⟨#[70, 65, 67, 84]⟩, v] w fun e w' => e = .returned (.tuple #[.bool b, .bool true]) ∧ Below w.heap.size w w' := by
  have hr1 : Row w w.heap.size 5 v ([x].map FV.list) := hr
  have HR := Lib.hid hr1
  have HB := Lib.hid hB
  have H2 := Lib.hid h2
  obtain ⟨g, o, c, rfl, hc1, hg, hcell⟩ := hr.single
  have QW : Hid (∀ W, Below w.heap.size w W → W.cell? ⟨g, o, none⟩ = some (.int .i64 x.kind) ∧ W.cell? ⟨g, o + 1, none⟩ = some (.int .i64 x.num) ∧ W.cell? ⟨g, o + 2, none⟩ = some (.int .i64 x.den) ∧ W.cell? ⟨g, o + 3, none⟩ = some (.string x.text) ∧ W.cell? ⟨g, o + 4, none⟩ = some (.slice none 0 0)) :=
    fun W hW => ⟨(hW.cell (p := ⟨g, o, none⟩) hg).trans (hcell 0 _ rfl), (hW.cell (p := ⟨g, o + 1, none⟩) hg).trans (hcell 1 _ rfl), (hW.cell (p := ⟨g, o + 2, none⟩) hg).trans (hcell 2 _ rfl), (hW.cell (p := ⟨g, o + 3, none⟩) hg).trans (hcell 3 _ rfl), (hW.cell (p := ⟨g, o + 4, none⟩) hg).trans (hcell 4 _ rfl)⟩
  have hu26 := Tryz.underlying26
  clear hcell hr hr1 hB h2
  go_enter Tryz.func78, Tryz.ntmps78
  go_wp2_with (first
    | (go_at_call 160; refine (every_numeric [x] _ _ HR.out (by simp) (by simpa using H2.out)).mono ?_; rintro e w1 ⟨rfl, hb1⟩; obtain ⟨q0, q1, q2, q3, q4⟩ := QW.out _ hb1)
    | (go_at_call 162; refine (HB.out _).mono ?_; rintro e w2 ⟨rfl, hb2⟩))
  go_ret2
  exact ⟨rfl, hb1.trans (hb2.mono hb1.size)⟩

set_option maxRecDepth 100000 in
set_option maxHeartbeats 1000000 in
theorem product_Fact (n : Nat) (w : World) (hn : n ≤ 18) :
    Calls Tryz.prog 210 #[.string ⟨#[70, 65, 67, 84]⟩, .int .i64 n] w fun e w' => e = .returned (.agg #[.int .i64 (fr (16 * (fac n : Int))).kind, .int .i64 (fr (16 * (fac n : Int))).num, .int .i64 (fr (16 * (fac n : Int))).den, .string (fr (16 * (fac n : Int))).text, .slice none 0 0]) ∧ Below w.heap.size w w' := by
  have HN := Lib.hid hn
  have hneg : ((n : Int) < 0) = False := by simp
  obtain ⟨r, hrr⟩ : ∃ r, r = fr (16 * (fac n : Int)) := ⟨_, rfl⟩
  have HRR := Lib.hid hrr
  rw [← hrr]
  clear hrr
  go_enter Tryz.func210, Tryz.ntmps210
  go_wp2
  go_loopg [6, 7] (n + 1) (fun gn o k wr => w.alloc (.cells #[.int .i64 0, .int .i64 0, .int .i64 0, .string ⟨#[]⟩, .slice none 0 0] 26) = wr ∧ ∃ j q : Nat, gn = j + 1 ∧ j ≤ n ∧ k = .int .i64 j ∧ o = .int .i64 q ∧ q * fac j = fac n ∧ q ≤ 99999999999)
  case atStart => exact ⟨rfl, n, 1, rfl, Nat.le_refl _, rfl, rfl, by simp, by omega⟩
  case round =>
    obtain ⟨rfl, j, q, rfl, hj, rfl, rfl, hq, hqb⟩ := hrel
    have HQ := Lib.hid hq
    have HJ := Lib.hid hj
    clear hq hj
    by_cases hlt : 1 < j
    · obtain ⟨p, hp⟩ : ∃ p : Nat, p = q * j := ⟨_, rfl⟩
      have hpb : p ≤ 99999999999 * 18 := by rw [hp]; exact Nat.mul_le_mul hqb (by have := HJ.out; have := HN.out; omega)
      have hw : wrap64 ((q : Int) * (j : Int)) = (p : Int) := by rw [← Int.natCast_mul, ← hp]; unfold wrap64; omega
      have hw2 : wrap64 ((j : Int) - 1) = ((j - 1 : Nat) : Int) := by have := HJ.out; have := HN.out; unfold wrap64; omega
      have HP := Lib.hid hp
      have HL : Hid (1 < j) := hlt
      have hlt' : (1 : Int) < (j : Int) := by omega
      clear hp
      by_cases hle : p ≤ 99999999999
      · have HLE := Lib.hid hle
        have HF : Hid (p * fac (j - 1) = fac n) := by
          obtain ⟨i, rfl⟩ : ∃ i, j = i + 1 := ⟨j - 1, by omega⟩
          rw [Hid, HP.out, ← HQ.out, Nat.mul_assoc]
          rfl
        go_wp2
        have hlt := HL.out
        go_roundg j
        case measure => omega
        case rel => exact ⟨rfl, j - 1, p, by omega, by have := HJ.out; omega, by rw [hw2], by rw [hw], HF.out, HLE.out⟩
      · have HF : Hid (r = ⟨6, 0, 0, ⟨#[]⟩⟩) := by
          have h1 : p ≤ fac n := by
            obtain ⟨i, rfl⟩ : ∃ i, j = i + 1 := ⟨j - 1, by omega⟩
            rw [← HQ.out, HP.out]
            show q * (i + 1) ≤ q * ((i + 1) * fac i)
            exact Nat.mul_le_mul_left _ (Nat.le_mul_of_pos_right _ (fac_pos i))
          rw [Hid, HRR.out]
          exact fr_int_out _ (by omega)
        have hle' : (99999999999 : Int) < (p : Int) := by omega
        go_wp2_with (go_at_call 47; refine (doubt_any _).mono ?_; rintro e w2 ⟨rfl, hb2⟩; obtain ⟨c2, f2, z2, k2⟩ := box_cells (heap_new1 _ _) hb2)
        refine bodyPost_ret (v := .agg #[.int .i64 6, .int .i64 0, .int .i64 0, .string ⟨#[]⟩, .slice none 0 0]) (by simp [results, Tryz.results210, go_sem, c2]) rfl ⟨by rw [HF.out], ?_⟩
        have pb := below_one hb2
        clear c2 f2
        (repeat refine below_set0 ?_ _ _)
        exact pb
    · have HF : Hid (q = fac n) := by
        have := HQ.out
        rw [fac_one (by omega)] at this
        rw [Hid]; omega
      have hlt' : ¬ (1 : Int) < (j : Int) := by omega
      have HI : Hid (∀ W, Calls Tryz.prog 33 #[.int .i64 q] W fun e w' => e = .returned (.agg #[.int .i64 r.kind, .int .i64 r.num, .int .i64 r.den, .string r.text, .slice none 0 0]) ∧ Below W.heap.size W w') := by
        rw [HRR.out, HF.out]
        exact fun W => int_any _ W
      clear hlt
      go_wp2_with (go_at_call 33; refine (HI.out _).mono ?_; rintro e w2 ⟨rfl, hb2⟩; obtain ⟨c2, f2, z2, k2⟩ := box_cells (heap_new1 _ _) hb2)
      refine bodyPost_ret (v := .agg #[.int .i64 r.kind, .int .i64 r.num, .int .i64 r.den, .string r.text, .slice none 0 0]) (by simp [results, Tryz.results210, go_sem, c2]) rfl ⟨rfl, ?_⟩
      have pb := below_one hb2
      clear c2 f2
      (repeat refine below_set0 ?_ _ _)
      exact pb

set_option maxRecDepth 100000 in
theorem product_neg (n : Int) (w : World) (hn : n < 0) :
    Calls Tryz.prog 210 #[.string ⟨#[70, 65, 67, 84]⟩, .int .i64 n] w fun e w' => e = .returned (.agg #[.int .i64 4, .int .i64 0, .int .i64 0, .string eNUM, .slice none 0 0]) ∧ Below w.heap.size w w' := by
  go_enter Tryz.func210, Tryz.ntmps210
  go_wp2_with (go_at_call 143; refine (err_any _ _).mono ?_; rintro e w1 ⟨rfl, hb1⟩; obtain ⟨c1, f1, z1, k1⟩ := box_cells (heap_new1 _ _) hb1)
  refine bodyPost_ret (v := .agg #[.int .i64 4, .int .i64 0, .int .i64 0, .string eNUM, .slice none 0 0]) (by simp [results, Tryz.results210, go_sem, c1, eNUM]) rfl ⟨rfl, ?_⟩
  have pb := below_one hb1
  clear c1 f1
  (repeat refine below_set0 ?_ _ _)
  exact pb

/-- What FACT of a whole number is. -/
def rFact (n : Int) : FV := if n < 0 then ⟨4, 0, 0, eNUM⟩ else if n ≤ 18 then fr (16 * (fac n.toNat : Int)) else ⟨6, 0, 0, ⟨#[]⟩⟩

theorem product_any (n : Int) (w : World) (hn : n ≤ 18) :
    Calls Tryz.prog 210 #[.string ⟨#[70, 65, 67, 84]⟩, .int .i64 n] w fun e w' => e = .returned (.agg #[.int .i64 (rFact n).kind, .int .i64 (rFact n).num, .int .i64 (rFact n).den, .string (rFact n).text, .slice none 0 0]) ∧ Below w.heap.size w w' := by
  by_cases h : n < 0
  · have e : rFact n = ⟨4, 0, 0, eNUM⟩ := by unfold rFact; rw [if_pos h]
    rw [e]
    exact product_neg n w h
  · have e : rFact n = fr (16 * (fac n.toNat : Int)) := by unfold rFact; rw [if_neg h, if_pos hn]
    rw [e]
    have := product_Fact n.toNat w (by omega)
    rwa [Int.toNat_of_nonneg (by omega)] at this

set_option maxRecDepth 100000 in
set_option maxHeartbeats 2000000 in
theorem one_Fact (n : Int) (v : Value) (w : World) (hn : n ≤ 18) (hr : Row w w.heap.size 5 v [FV.list ⟨1, n, 1, ⟨#[]⟩⟩]) :
    Calls Tryz.prog 114 #[.string ⟨#[70, 65, 67, 84]⟩, v] w fun e w' => e = .returned (.agg #[.int .i64 (rFact n).kind, .int .i64 (rFact n).num, .int .i64 (rFact n).den, .string (rFact n).text, .slice none 0 0]) ∧ Below w.heap.size w w' := by
  have hr1 : Row w w.heap.size 5 v (([⟨1, n, 1, ⟨#[]⟩⟩] : List FV).map FV.list) := hr
  have HR := Lib.hid hr1
  obtain ⟨g, o, c, rfl, hc1, hg, hcell⟩ := hr.single
  have hu26 := Tryz.underlying26
  obtain ⟨r, hrr⟩ : ∃ r, r = rFact n := ⟨_, rfl⟩
  have HP : Hid (∀ W, Calls Tryz.prog 210 #[.string ⟨#[70, 65, 67, 84]⟩, .int .i64 n] W fun e w' => e = .returned (.agg #[.int .i64 r.kind, .int .i64 r.num, .int .i64 r.den, .string r.text, .slice none 0 0]) ∧ Below W.heap.size W w') := by
    rw [hrr]; exact fun W => product_any n W hn
  rw [← hrr]
  clear hcell hr hr1 hrr
  go_enter Tryz.func114, Tryz.ntmps114
  go_wp2_with (go_at_call 204; refine (numbers_num [⟨1, n, 1, ⟨#[]⟩⟩] _ _ ((HR.out.below ((Below.refl _ _).alloc (Nat.le_refl _) _)).more (by simp)) (by simp) (by simp)).mono ?_; rintro e w1 ⟨v1, rfl, hR1, hb1⟩; obtain ⟨g1, o1, cc1, rfl, hcc1, hg1, hcell1⟩ := Row.single hR1; have q1 := hcell1 1 _ rfl; have q2 := hcell1 2 _ rfl; have HW := Lib.hid hcell1; obtain ⟨c1, f1, z1, k1⟩ := box_cells (heap_new1 _ _) hb1; clear hcell1 hR1)
  go_quiet (fail)
  go_wp2_with (go_at_call 210; refine (HP.out _).mono ?_; rintro e w2 ⟨rfl, hb2⟩; have hb2' := Below.ofDrewN hb2; obtain ⟨c2, f2, z2, k2⟩ := box_later k1 hb2'; clear c1 f1)
  refine bodyPost_ret (v := .agg #[.int .i64 r.kind, .int .i64 r.num, .int .i64 r.den, .string r.text, .slice none 0 0]) (by simp [results, Tryz.results114, go_sem, c2]) rfl ⟨rfl, ?_⟩
  have pb := below_box (below_one hb1) (below_one hb1).size hb2'
  clear c2 f2
  (repeat refine below_set0 ?_ _ _)
  exact pb

set_option maxRecDepth 100000 in
set_option maxHeartbeats 2000000 in
theorem callMath_Fact (n : Int) (v : Value) (w : World) (hn : n ≤ 18) (hr : Row w w.heap.size 5 v [FV.list ⟨1, n, 1, ⟨#[]⟩⟩]) :
    Calls Tryz.prog 58 #[.string ⟨#[70, 65, 67, 84]⟩, v] w fun e w' => e = .returned (.tuple #[.agg #[.int .i64 (rFact n).kind, .int .i64 (rFact n).num, .int .i64 (rFact n).den, .string (rFact n).text, .slice none 0 0], .bool true]) ∧ Below w.heap.size w w' := by
  obtain ⟨r, hrr⟩ : ∃ r, r = rFact n := ⟨_, rfl⟩
  have HP : Hid (∀ W, Below w.heap.size w W → Calls Tryz.prog 114 #[.string ⟨#[70, 65, 67, 84]⟩, v] W fun e w' => e = .returned (.agg #[.int .i64 r.kind, .int .i64 r.num, .int .i64 r.den, .string r.text, .slice none 0 0]) ∧ Below W.heap.size W w') := by
    rw [hrr]; exact fun W hW => one_Fact n v W hn ((hr.below hW).more hW.size)
  rw [← hrr]
  clear hr hrr
  go_enter Tryz.func58, Tryz.ntmps58
  go_wp2_with (go_at_call 114; refine (HP.out _ ((Below.refl _ _).alloc (Nat.le_refl _) _)).mono ?_; rintro e w1 ⟨rfl, hb1⟩; obtain ⟨c1, f1, z1, k1⟩ := box_cells (heap_new1 _ _) hb1)
  refine bodyPost_ret (v := .tuple #[.agg #[.int .i64 r.kind, .int .i64 r.num, .int .i64 r.den, .string r.text, .slice none 0 0], .bool true]) (by simp [results, Tryz.results58, go_sem, c1]) rfl ⟨rfl, ?_⟩
  have pb := below_one hb1
  clear c1 f1
  (repeat refine below_set0 ?_ _ _)
  exact pb

/-- FACT of the reference, of a whole number. -/
theorem call_Fact (n : Int) (v : Value) (w : World) (hr : Row w w.heap.size 5 v [FV.list ⟨1, n, 1, ⟨#[]⟩⟩]) (b1 : n ≤ 99999999999) (b2 : -99999999999 ≤ n) :
    Calls Tryz.prog 23 #[.string ⟨#[70, 65, 67, 84]⟩, v] w fun e w' => e = .returned (.agg #[.int .i64 (rFact n).kind, .int .i64 (rFact n).num, .int .i64 (rFact n).den, .string (rFact n).text, .slice none 0 0]) ∧ Below w.heap.size w w' := by
  refine call_any _ v w _ _ _ _ _ _ _ fun W0 hW0 => ?_
  have hr0 := (hr.below hW0).more hW0.size
  have hB : ∀ W, Calls Tryz.prog 162 #[.agg #[.int .i64 1, .int .i64 n, .int .i64 1, .string ⟨#[]⟩, .slice none 0 0], .int .i64 (-99999999999), .int .i64 18] W fun e w' => e = .returned (.bool (btw ⟨1, n, 1, ⟨#[]⟩⟩ (-99999999999) 18)) ∧ Below W.heap.size W w' := fun W => between_num ⟨1, n, 1, ⟨#[]⟩⟩ _ _ W rfl
  have hF : ∀ W, Below W0.heap.size W0 W → Calls Tryz.prog 54 #[.string ⟨#[70, 65, 67, 84]⟩, v] W fun e w' => e = .returned (.bool (btw ⟨1, n, 1, ⟨#[]⟩⟩ (-99999999999) 18)) ∧ Below W.heap.size W w' := fun W hW =>
    fits_Numbers _ v W _ fun W' hW' => fitsNumbers_Fact ⟨1, n, 1, ⟨#[]⟩⟩ _ v W' ((((hr0.below hW).more hW.size).below hW').more hW'.size) (by simp) hB
  by_cases hn : n ≤ 18
  · have hb : btw ⟨1, n, 1, ⟨#[]⟩⟩ (-99999999999) 18 = true := by simp [btw, hn, b2]
    rw [hb] at hF
    refine callOver_CallMath _ v W0 _ _ _ _ _ _ _ hF ?_ ?_ ?_ ?_
    · exact fun W _ => stat_Fact v W
    · exact fun W _ => criteria_Fact v W
    · exact fun W _ => lookup_Fact v W
    · exact fun W hW => callMath_Fact n v W hn ((hr0.below hW).more hW.size)
  · have hb : btw ⟨1, n, 1, ⟨#[]⟩⟩ (-99999999999) 18 = false := by simp [btw, hn]
    rw [hb] at hF
    have e : rFact n = ⟨6, 0, 0, ⟨#[]⟩⟩ := by unfold rFact; rw [if_neg (by omega), if_neg hn]
    rw [e]
    exact callOver_no _ v W0 hF

theorem call_Fact_no (v : Value) (w : World) (hr : Row w w.heap.size 5 v [FV.list ⟨6, 0, 0, ⟨#[]⟩⟩]) :
    Calls Tryz.prog 23 #[.string ⟨#[70, 65, 67, 84]⟩, v] w fun e w' => e = .returned (.agg #[.int .i64 6, .int .i64 0, .int .i64 0, .string ⟨#[]⟩, .slice none 0 0]) ∧ Below w.heap.size w w' := by
  refine call_any _ v w _ _ _ _ _ _ _ fun W0 hW0 => ?_
  have hr0 := (hr.below hW0).more hW0.size
  refine callOver_no _ v W0 fun W hW => ?_
  exact fits_Numbers _ v W _ fun W' hW' => fitsNumbers_Fact ⟨6, 0, 0, ⟨#[]⟩⟩ _ v W' ((((hr0.below hW).more hW.size).below hW').more hW'.size) (by simp) fun W => between_doubt _ _ W

end Go.Proofs.YtededpnjijfieaaGreatDoor
