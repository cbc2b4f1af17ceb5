/-
CHAR of the reference.
-/
import Derived.Test.YtededpnjijfieaaGreatDoorNoChar
import Derived.Laws.BytesString
import Derived.Laws.Cells
import Derived.Test.YtededpnjijfieaaGreatDoorBtw
import Derived.Test.YtededpnjijfieaaGreatDoorFits
import Derived.Test.YtededpnjijfieaaGreatDoorMade
import Derived.Test.YtededpnjijfieaaGreatDoorWhole
namespace Go.Proofs.YtededpnjijfieaaGreatDoor
open Go.RowKit

set_option maxRecDepth 100000 in
set_option maxHeartbeats 2000000 in
theorem fitsTexts_Char (B : Int → Int → Bool) (x : FV) (v : Value) (w : World) (hr : Row w w.heap.size 5 v [FV.list x])
    (hB : ∀ lo hi W, Calls Tryz.prog 162 #[.agg #[.int .i64 x.kind, .int .i64 x.num, .int .i64 x.den, .string x.text, .slice none 0 0], .int .i64 lo, .int .i64 hi] W fun e w' => e = .returned (.bool (B lo hi)) ∧ Below W.heap.size W w') :
    Calls Tryz.prog 79 #[.string ⟨#[67, 72, 65, 82]⟩, v] w fun e w' => e = .returned (.tuple #[.bool (B 1 126 || (B (-99999999999) (-1) || B 256 99999999999)), .bool true]) ∧ Below w.heap.size w w' := by
  have HB := Lib.hid hB
  obtain ⟨g, o, c, rfl, hc1, hg, hcell⟩ := hr.single
  have QW : Hid (∀ W, Below w.heap.size w W → W.cell? ⟨g, o, none⟩ = some (.int .i64 x.kind) ∧ W.cell? ⟨g, o + 1, none⟩ = some (.int .i64 x.num) ∧ W.cell? ⟨g, o + 2, none⟩ = some (.int .i64 x.den) ∧ W.cell? ⟨g, o + 3, none⟩ = some (.string x.text) ∧ W.cell? ⟨g, o + 4, none⟩ = some (.slice none 0 0)) :=
    fun W hW => ⟨(hW.cell (p := ⟨g, o, none⟩) hg).trans (hcell 0 _ rfl), (hW.cell (p := ⟨g, o + 1, none⟩) hg).trans (hcell 1 _ rfl), (hW.cell (p := ⟨g, o + 2, none⟩) hg).trans (hcell 2 _ rfl), (hW.cell (p := ⟨g, o + 3, none⟩) hg).trans (hcell 3 _ rfl), (hW.cell (p := ⟨g, o + 4, none⟩) hg).trans (hcell 4 _ rfl)⟩
  have pb := Below.refl w.heap.size w
  obtain ⟨q0, q1, q2, q3, q4⟩ := QW.out w pb
  have hu26 := Tryz.underlying26
  clear hcell hr hB
  cases e1 : B 1 126
  · cases e2 : B (-99999999999) (-1)
    · go_enter Tryz.func79, Tryz.ntmps79
      go_wp2_with (go_at_call 162; refine (HB.out _ _ _).mono ?_; rintro e w1 ⟨rfl, hb1⟩; have pb := below_next pb pb.size hb1; obtain ⟨q0, q1, q2, q3, q4⟩ := QW.out _ pb)
      go_ret2
      exact ⟨rfl, pb⟩
    · go_enter Tryz.func79, Tryz.ntmps79
      go_wp2_with (go_at_call 162; refine (HB.out _ _ _).mono ?_; rintro e w1 ⟨rfl, hb1⟩; have pb := below_next pb pb.size hb1; obtain ⟨q0, q1, q2, q3, q4⟩ := QW.out _ pb)
      go_ret2
      exact ⟨rfl, pb⟩
  · go_enter Tryz.func79, Tryz.ntmps79
    go_wp2_with (go_at_call 162; refine (HB.out _ _ _).mono ?_; rintro e w1 ⟨rfl, hb1⟩; have pb := below_next pb pb.size hb1; obtain ⟨q0, q1, q2, q3, q4⟩ := QW.out _ pb)
    go_ret2
    exact ⟨rfl, pb⟩

/-- The error of a wrong value. -/
def eVALUE : ByteArray := ⟨#[35, 86, 65, 76, 85, 69, 33]⟩

/-- What CHAR of a whole number is. -/
def rChar (n : Int) : FV := if 32 ≤ n ∧ n ≤ 126 then ⟨2, 0, 0, ⟨#[UInt8.ofNat n.toNat]⟩⟩ else if n < 0 then ⟨4, 0, 0, eVALUE⟩ else ⟨6, 0, 0, ⟨#[]⟩⟩

theorem conv_byte (W : World) (n : Int) (b : Nat) (hb : b = W.heap.size) : (convert 160 9 (.slice (some ⟨b, 0, none⟩) 1 1)).run Tryz.prog (W.alloc (.cells #[.int .u8 n] 5)) = .ok (.string ⟨#[UInt8.ofNat n.toNat]⟩) (W.alloc (.cells #[.int .u8 n] 5)) := by
  subst hb
  have hc : (W.alloc (.cells #[.int .u8 n] 5)).cell? ⟨W.heap.size, 0, none⟩ = some (.int .u8 n) := by
    rw [cell_of_row _ _ _ _ _ _ (heap_alloc_new W _)]; rfl
  rw [run_convert_bytes_string _ _ _ 5 _ _ _ Tryz.underlying160 Tryz.underlying5 Tryz.underlying9, run_bytesToString _ _ 1 1 [n]]
  · rfl
  · refine run_loadCells_list (w := W.alloc (.cells #[.int .u8 n] 5)) ⟨W.heap.size, 0, none⟩ [.int .u8 n] ?_
    intro j v hj
    have h0 : j = 0 := by have := (List.getElem?_eq_some_iff.1 hj).1; simpa using this
    subst h0
    have hv : Value.int .u8 n = v := by simpa using hj
    rw [← hv]
    exact hc

set_option maxRecDepth 100000 in
set_option maxHeartbeats 2000000 in
theorem character_text (n : Int) (v : Value) (w : World) (hr : Row w w.heap.size 5 v [FV.list ⟨1, n, 1, ⟨#[]⟩⟩]) (h1 : 32 ≤ n) (h2 : n ≤ 126) :
    Calls Tryz.prog 125 #[.string ⟨#[67, 72, 65, 82]⟩, v] w fun e w' => e = .returned (.agg #[.int .i64 2, .int .i64 0, .int .i64 0, .string ⟨#[UInt8.ofNat n.toNat]⟩, .slice none 0 0]) ∧ Below w.heap.size w w' := by
  have hr1 : Row w w.heap.size 5 v (([⟨1, n, 1, ⟨#[]⟩⟩] : List FV).map FV.list) := hr
  have HR := Lib.hid hr1
  obtain ⟨g, o, c, rfl, hc1, hg, hcell⟩ := hr.single
  have hu26 := Tryz.underlying26
  clear hcell hr hr1
  go_enter Tryz.func125, Tryz.ntmps125
  go_wp2_with (go_at_call 211; refine (wholes_int [⟨1, n, 1, ⟨#[]⟩⟩] _ _ ((HR.out.below ((Below.refl _ _).alloc (Nat.le_refl _) _)).more (by simp)) (by simp) (by simp) (by simp)).mono ?_; rintro e w1 ⟨v1, rfl, hR1, hb1⟩; obtain ⟨g1, o1, cc1, rfl, hcc1, hg1, hcell1⟩ := Row.single hR1; have q0 := hcell1 0 _ rfl; simp only [Nat.add_zero] at q0; obtain ⟨c1, f1, z1, k1⟩ := box_cells (heap_new1 _ _) hb1; have pb1 := below_one hb1; clear hcell1 hR1)
  rw [conv_byte (w1.alloc (.cells #[.int .i64 0, .int .i64 0, .int .i64 0, .string ⟨#[]⟩, .slice none 0 0] 26)) n (w1.heap.size + 1) (by simp)]
  go_wp2_with (go_at_call 202; refine (str_any _ _).mono ?_; rintro e w2 ⟨rfl, hb2⟩; obtain ⟨c2, f2, z2, k2⟩ := box_later ((Below.heap_alloc w1 _ _ z1).trans k1) hb2; have pb2 := below_box (pb1.alloc pb1.size _) (by have := pb1.size; simp; omega) hb2; clear c1 f1)
  refine bodyPost_ret (v := .agg #[.int .i64 2, .int .i64 0, .int .i64 0, .string ⟨#[UInt8.ofNat n.toNat]⟩, .slice none 0 0]) (by simp [results, Tryz.results125, go_sem, c2]) rfl ⟨rfl, ?_⟩
  clear c2 f2
  (repeat refine below_set0 ?_ _ _)
  exact pb2

set_option maxRecDepth 100000 in
set_option maxHeartbeats 2000000 in
theorem character_neg (n : Int) (v : Value) (w : World) (hr : Row w w.heap.size 5 v [FV.list ⟨1, n, 1, ⟨#[]⟩⟩]) (h1 : n < 0) :
    Calls Tryz.prog 125 #[.string ⟨#[67, 72, 65, 82]⟩, v] w fun e w' => e = .returned (.agg #[.int .i64 4, .int .i64 0, .int .i64 0, .string eVALUE, .slice none 0 0]) ∧ Below w.heap.size w w' := by
  have hr1 : Row w w.heap.size 5 v (([⟨1, n, 1, ⟨#[]⟩⟩] : List FV).map FV.list) := hr
  have HR := Lib.hid hr1
  obtain ⟨g, o, c, rfl, hc1, hg, hcell⟩ := hr.single
  have hu26 := Tryz.underlying26
  clear hcell hr hr1
  have h32 : ¬ 32 ≤ n := by omega
  go_enter Tryz.func125, Tryz.ntmps125
  go_wp2_with (first
    | (go_at_call 211; refine (wholes_int [⟨1, n, 1, ⟨#[]⟩⟩] _ _ ((HR.out.below ((Below.refl _ _).alloc (Nat.le_refl _) _)).more (by simp)) (by simp) (by simp) (by simp)).mono ?_; rintro e w1 ⟨v1, rfl, hR1, hb1⟩; obtain ⟨g1, o1, cc1, rfl, hcc1, hg1, hcell1⟩ := Row.single hR1; have q0 := hcell1 0 _ rfl; simp only [Nat.add_zero] at q0; obtain ⟨c1, f1, z1, k1⟩ := box_cells (heap_new1 _ _) hb1; have pb1 := below_one hb1; clear hcell1 hR1)
    | (go_at_call 143; refine (err_any _ _).mono ?_; rintro e w2 ⟨rfl, hb2⟩; obtain ⟨c2, f2, z2, k2⟩ := box_later k1 hb2; have pb2 := below_box pb1 pb1.size hb2; clear c1 f1))
  refine bodyPost_ret (v := .agg #[.int .i64 4, .int .i64 0, .int .i64 0, .string eVALUE, .slice none 0 0]) (by simp [results, Tryz.results125, go_sem, c2, eVALUE]) rfl ⟨rfl, ?_⟩
  clear c2 f2
  (repeat refine below_set0 ?_ _ _)
  exact pb2

set_option maxRecDepth 100000 in
set_option maxHeartbeats 2000000 in
theorem character_doubt (n : Int) (v : Value) (w : World) (hr : Row w w.heap.size 5 v [FV.list ⟨1, n, 1, ⟨#[]⟩⟩]) (h1 : ¬ (32 ≤ n ∧ n ≤ 126)) (h2 : ¬ n < 0) :
    Calls Tryz.prog 125 #[.string ⟨#[67, 72, 65, 82]⟩, v] w fun e w' => e = .returned (.agg #[.int .i64 6, .int .i64 0, .int .i64 0, .string ⟨#[]⟩, .slice none 0 0]) ∧ Below w.heap.size w w' := by
  have hr1 : Row w w.heap.size 5 v (([⟨1, n, 1, ⟨#[]⟩⟩] : List FV).map FV.list) := hr
  have HR := Lib.hid hr1
  obtain ⟨g, o, c, rfl, hc1, hg, hcell⟩ := hr.single
  have hu26 := Tryz.underlying26
  clear hcell hr hr1
  by_cases h32 : 32 ≤ n
  · have h126 : ¬ n ≤ 126 := fun h => h1 ⟨h32, h⟩
    have hz : ¬ n = 0 := by omega
    clear h1
    go_enter Tryz.func125, Tryz.ntmps125
    go_wp2_with (first
      | (go_at_call 211; refine (wholes_int [⟨1, n, 1, ⟨#[]⟩⟩] _ _ ((HR.out.below ((Below.refl _ _).alloc (Nat.le_refl _) _)).more (by simp)) (by simp) (by simp) (by simp)).mono ?_; rintro e w1 ⟨v1, rfl, hR1, hb1⟩; obtain ⟨g1, o1, cc1, rfl, hcc1, hg1, hcell1⟩ := Row.single hR1; have q0 := hcell1 0 _ rfl; simp only [Nat.add_zero] at q0; obtain ⟨c1, f1, z1, k1⟩ := box_cells (heap_new1 _ _) hb1; have pb1 := below_one hb1; clear hcell1 hR1)
      | (go_at_call 47; refine (doubt_any _).mono ?_; rintro e w2 ⟨rfl, hb2⟩; obtain ⟨c2, f2, z2, k2⟩ := box_later k1 hb2; have pb2 := below_box pb1 pb1.size hb2; clear c1 f1))
    refine bodyPost_ret (v := .agg #[.int .i64 6, .int .i64 0, .int .i64 0, .string ⟨#[]⟩, .slice none 0 0]) (by simp [results, Tryz.results125, go_sem, c2]) rfl ⟨rfl, ?_⟩
    clear c2 f2
    (repeat refine below_set0 ?_ _ _)
    exact pb2
  · clear h1
    go_enter Tryz.func125, Tryz.ntmps125
    by_cases hz : n = 0
    · subst hz
      go_wp2_with (first
        | (go_at_call 211; refine (wholes_int [⟨1, 0, 1, ⟨#[]⟩⟩] _ _ ((HR.out.below ((Below.refl _ _).alloc (Nat.le_refl _) _)).more (by simp)) (by simp) (by simp) (by simp)).mono ?_; rintro e w1 ⟨v1, rfl, hR1, hb1⟩; obtain ⟨g1, o1, cc1, rfl, hcc1, hg1, hcell1⟩ := Row.single hR1; have q0 := hcell1 0 _ rfl; simp only [Nat.add_zero] at q0; obtain ⟨c1, f1, z1, k1⟩ := box_cells (heap_new1 _ _) hb1; have pb1 := below_one hb1; clear hcell1 hR1)
        | (go_at_call 47; refine (doubt_any _).mono ?_; rintro e w2 ⟨rfl, hb2⟩; obtain ⟨c2, f2, z2, k2⟩ := box_later k1 hb2; have pb2 := below_box pb1 pb1.size hb2; clear c1 f1))
      refine bodyPost_ret (v := .agg #[.int .i64 6, .int .i64 0, .int .i64 0, .string ⟨#[]⟩, .slice none 0 0]) (by simp [results, Tryz.results125, go_sem, c2]) rfl ⟨rfl, ?_⟩
      clear c2 f2
      (repeat refine below_set0 ?_ _ _)
      exact pb2
    · go_wp2_with (first
        | (go_at_call 211; refine (wholes_int [⟨1, n, 1, ⟨#[]⟩⟩] _ _ ((HR.out.below ((Below.refl _ _).alloc (Nat.le_refl _) _)).more (by simp)) (by simp) (by simp) (by simp)).mono ?_; rintro e w1 ⟨v1, rfl, hR1, hb1⟩; obtain ⟨g1, o1, cc1, rfl, hcc1, hg1, hcell1⟩ := Row.single hR1; have q0 := hcell1 0 _ rfl; simp only [Nat.add_zero] at q0; obtain ⟨c1, f1, z1, k1⟩ := box_cells (heap_new1 _ _) hb1; have pb1 := below_one hb1; clear hcell1 hR1)
        | (go_at_call 47; refine (doubt_any _).mono ?_; rintro e w2 ⟨rfl, hb2⟩; obtain ⟨c2, f2, z2, k2⟩ := box_later k1 hb2; have pb2 := below_box pb1 pb1.size hb2; clear c1 f1))
      refine bodyPost_ret (v := .agg #[.int .i64 6, .int .i64 0, .int .i64 0, .string ⟨#[]⟩, .slice none 0 0]) (by simp [results, Tryz.results125, go_sem, c2]) rfl ⟨rfl, ?_⟩
      clear c2 f2
      (repeat refine below_set0 ?_ _ _)
      exact pb2

theorem character_any (n : Int) (v : Value) (w : World) (hr : Row w w.heap.size 5 v [FV.list ⟨1, n, 1, ⟨#[]⟩⟩]) :
    Calls Tryz.prog 125 #[.string ⟨#[67, 72, 65, 82]⟩, v] w fun e w' => e = .returned (.agg #[.int .i64 (rChar n).kind, .int .i64 (rChar n).num, .int .i64 (rChar n).den, .string (rChar n).text, .slice none 0 0]) ∧ Below w.heap.size w w' := by
  by_cases h1 : 32 ≤ n ∧ n ≤ 126
  · have e : rChar n = ⟨2, 0, 0, ⟨#[UInt8.ofNat n.toNat]⟩⟩ := by unfold rChar; rw [if_pos h1]
    rw [e]
    exact character_text n v w hr h1.1 h1.2
  · by_cases h2 : n < 0
    · have e : rChar n = ⟨4, 0, 0, eVALUE⟩ := by unfold rChar; rw [if_neg h1, if_pos h2]
      rw [e]
      exact character_neg n v w hr h2
    · have e : rChar n = ⟨6, 0, 0, ⟨#[]⟩⟩ := by unfold rChar; rw [if_neg h1, if_neg h2]
      rw [e]
      exact character_doubt n v w hr h1 h2

set_option maxRecDepth 100000 in
set_option maxHeartbeats 2000000 in
theorem callText_Char (n : Int) (v : Value) (w : World) (hr : Row w w.heap.size 5 v [FV.list ⟨1, n, 1, ⟨#[]⟩⟩]) :
    Calls Tryz.prog 59 #[.string ⟨#[67, 72, 65, 82]⟩, v] w fun e w' => e = .returned (.tuple #[.agg #[.int .i64 (rChar n).kind, .int .i64 (rChar n).num, .int .i64 (rChar n).den, .string (rChar n).text, .slice none 0 0], .bool true]) ∧ Below w.heap.size w w' := by
  obtain ⟨r, hrr⟩ : ∃ r, r = rChar n := ⟨_, rfl⟩
  have HP : Hid (∀ W, Below w.heap.size w W → Calls Tryz.prog 125 #[.string ⟨#[67, 72, 65, 82]⟩, v] W fun e w' => e = .returned (.agg #[.int .i64 r.kind, .int .i64 r.num, .int .i64 r.den, .string r.text, .slice none 0 0]) ∧ Below W.heap.size W w') := by
    rw [hrr]; exact fun W hW => character_any n v W ((hr.below hW).more hW.size)
  rw [← hrr]
  clear hr hrr
  go_enter Tryz.func59, Tryz.ntmps59
  go_wp2_with (go_at_call 125; refine (HP.out _ ((Below.refl _ _).alloc (Nat.le_refl _) _)).mono ?_; rintro e w1 ⟨rfl, hb1⟩; obtain ⟨c1, f1, z1, k1⟩ := box_cells (heap_new1 _ _) hb1)
  refine bodyPost_ret (v := .tuple #[.agg #[.int .i64 r.kind, .int .i64 r.num, .int .i64 r.den, .string r.text, .slice none 0 0], .bool true]) (by simp [results, Tryz.results59, go_sem, c1]) rfl ⟨rfl, ?_⟩
  have pb := below_one hb1
  clear c1 f1
  (repeat refine below_set0 ?_ _ _)
  exact pb

/-- CHAR of the reference, of a whole number. -/
theorem call_Char (n : Int) (v : Value) (w : World) (hr : Row w w.heap.size 5 v [FV.list ⟨1, n, 1, ⟨#[]⟩⟩]) (b1 : n ≤ 99999999999) (b2 : -99999999999 ≤ n) :
    Calls Tryz.prog 23 #[.string ⟨#[67, 72, 65, 82]⟩, v] w fun e w' => e = .returned (.agg #[.int .i64 (rChar n).kind, .int .i64 (rChar n).num, .int .i64 (rChar n).den, .string (rChar n).text, .slice none 0 0]) ∧ Below w.heap.size w w' := by
  refine call_any _ v w _ _ _ _ _ _ _ fun W0 hW0 => ?_
  have hr0 := (hr.below hW0).more hW0.size
  have hF : ∀ W, Below W0.heap.size W0 W → Calls Tryz.prog 54 #[.string ⟨#[67, 72, 65, 82]⟩, v] W fun e w' => e = .returned (.bool (btw ⟨1, n, 1, ⟨#[]⟩⟩ 1 126 || (btw ⟨1, n, 1, ⟨#[]⟩⟩ (-99999999999) (-1) || btw ⟨1, n, 1, ⟨#[]⟩⟩ 256 99999999999))) ∧ Below W.heap.size W w' := fun W hW =>
    fits_Texts _ v W _ (fun W' hW' => fitsNumbers_Char [⟨1, n, 1, ⟨#[]⟩⟩] v W' ((((hr0.below hW).more hW.size).below hW').more hW'.size) (fun W'' hR => (every_numeric [⟨1, n, 1, ⟨#[]⟩⟩] v W'' hR (by simp) (by simp)).mono fun e w' ⟨he, hb⟩ => ⟨⟨_, he⟩, hb⟩))
      (fun W' hW' => fitsTexts_Char (btw ⟨1, n, 1, ⟨#[]⟩⟩) ⟨1, n, 1, ⟨#[]⟩⟩ v W' ((((hr0.below hW).more hW.size).below hW').more hW'.size) (fun lo hi W'' => between_num ⟨1, n, 1, ⟨#[]⟩⟩ lo hi W'' rfl))
  cases hb : (btw ⟨1, n, 1, ⟨#[]⟩⟩ 1 126 || (btw ⟨1, n, 1, ⟨#[]⟩⟩ (-99999999999) (-1) || btw ⟨1, n, 1, ⟨#[]⟩⟩ 256 99999999999))
  · rw [hb] at hF
    have e : rChar n = ⟨6, 0, 0, ⟨#[]⟩⟩ := by
      simp [btw] at hb
      unfold rChar
      rw [if_neg (by omega), if_neg (by omega)]
    rw [e]
    exact callOver_no _ v W0 hF
  · rw [hb] at hF
    refine callOver_CallText _ v W0 _ _ _ _ _ _ _ hF ?_ ?_ ?_ ?_ ?_
    · exact fun W _ => stat_Char v W
    · exact fun W _ => criteria_Char v W
    · exact fun W _ => lookup_Char v W
    · exact fun W _ => callMath_Char v W
    · exact fun W hW => callText_Char n v W ((hr0.below hW).more hW.size)

theorem call_Char_no (v : Value) (w : World) (hr : Row w w.heap.size 5 v [FV.list ⟨6, 0, 0, ⟨#[]⟩⟩]) :
    Calls Tryz.prog 23 #[.string ⟨#[67, 72, 65, 82]⟩, v] w fun e w' => e = .returned (.agg #[.int .i64 6, .int .i64 0, .int .i64 0, .string ⟨#[]⟩, .slice none 0 0]) ∧ Below w.heap.size w w' := by
  refine call_any _ v w _ _ _ _ _ _ _ fun W0 hW0 => ?_
  have hr0 := (hr.below hW0).more hW0.size
  refine callOver_no _ v W0 fun W hW => ?_
  exact fits_Texts _ v W _ (fun W' hW' => fitsNumbers_Char [⟨6, 0, 0, ⟨#[]⟩⟩] v W' ((((hr0.below hW).more hW.size).below hW').more hW'.size) (fun W'' hR => (every_numeric [⟨6, 0, 0, ⟨#[]⟩⟩] v W'' hR (by simp) (by simp)).mono fun e w' ⟨he, hb⟩ => ⟨⟨_, he⟩, hb⟩))
      (fun W' hW' => fitsTexts_Char (fun _ _ => false) ⟨6, 0, 0, ⟨#[]⟩⟩ v W' ((((hr0.below hW).more hW.size).below hW').more hW'.size) (fun lo hi W'' => between_doubt lo hi W''))

end Go.Proofs.YtededpnjijfieaaGreatDoor
