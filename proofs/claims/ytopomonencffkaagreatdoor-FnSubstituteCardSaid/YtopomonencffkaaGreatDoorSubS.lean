/-
'substitute' of the reference.
-/
import Derived.Test.YtopomonencffkaaGreatDoorCut
import Derived.Test.YtopomonencffkaaGreatDoorSubP
import Derived.Deep.QuietTactic
import Derived.BigQuiet
namespace Go.Proofs.YtopomonencffkaaGreatDoor
open Go.RowKit

/-- The text that SUBSTITUTE says, if it is not too long. -/
def cap (R : ByteArray) : FV := if 20000 < R.size then ⟨6, 0, 0, ⟨#[]⟩⟩ else ⟨2, 0, 0, R⟩

theorem at_same {w : World} {B g o n c : Nat} {cs : List (List Value)} (h : Row w B 1 (.slice (some ⟨g, o, none⟩) n c) cs) (k : Nat) (x : Value) (hx : cs[k]? = some [x]) : w.cell? ⟨g, o + k, none⟩ = some x := by
  obtain ⟨_, _, _, e, _, _, h⟩ := h.at_ (k := k) hx
  injection e with e
  injection e with e
  injection e with e1 e2
  subst e1 e2
  have := h 0 _ rfl
  simpa using this
/-- A text that is not empty. -/
theorem isE_false {p : ByteArray} (h : 0 < p.size) : p.toList.isEmpty = false := by
  rw [ByteArray.toList_eq]
  cases h2 : p.data.toList with
  | nil =>
    have h3 : p.data.toList.length = p.size := Array.length_toList
    rw [h2] at h3
    simp at h3
    omega
  | cons x l => rfl

theorem four_ne {many m : Nat} (h : ¬ many = m) : ((many : Int) + 1 == (m : Int) + 1) = false := beq_eq_false_iff_ne.2 (by omega)
theorem four_zero (m : Nat) : ((m : Int) + 1 == 0) = false := beq_eq_false_iff_ne.2 (by omega)
theorem step_size {a b q : ByteArray} {m n : Nat} (h : b.size = m) (hq : q.size ≤ 1000000) (h2 : a.size + m + 1000000 ≤ n) : (a ++ b ++ q).size ≤ n := by
  rw [ByteArray.size_append, ByteArray.size_append]
  omega
theorem step_measure {n p j l : Nat} (h1 : j + p ≤ n) (h2 : l < j + p) : n + 1 - (intOf (.int .i64 ((j : Int) + (p : Int)))).toNat < n + 1 - (intOf (.int .i64 (l : Int))).toNat := by
  simp only [intOf]
  omega
theorem end_nums {s O : ByteArray} {last : Nat} (hs : s.size ≤ 1000000) (hl : last ≤ s.size) (hO : O.size ≤ 1000001 * last) :
    (last : Int) ≤ (s.size : Int) ∧ (0 : Int) ≤ (last : Int) ∧ ¬ 9223372036854775807 < O.size + (s.size - last) := ⟨by omega, by omega, by omega⟩
theorem step_nums {s p q O : ByteArray} {last j many : Nat} (h : idx p s last = some j) (hp0 : 0 < p.size) (hs : s.size ≤ 1000000) (hq : q.size ≤ 1000000) (hm : many ≤ last) (hO : O.size ≤ 1000001 * last) :
    (last : Int) ≤ (j : Int) ∧ (j : Int) ≤ (s.size : Int) ∧ (0 : Int) ≤ (j : Int) ∧ (0 : Int) ≤ (last : Int) ∧ ¬ (j : Int) < 0 ∧ wrap64 ((many : Int) + 1) = ((many + 1 : Nat) : Int) ∧ wrap64 ((j : Int) + (p.size : Int)) = ((j + p.size : Nat) : Int) ∧
    min j s.size = j ∧ ¬ 9223372036854775807 < O.size + (j - last) ∧ ¬ 9223372036854775807 < O.size + (j - last) + q.size ∧ ¬ 9223372036854775807 < O.size + (j - last) + p.size ∧
    O.size + (j - last) + 1000000 ≤ 1000001 * (j + p.size) ∧ j + p.size ≤ s.size ∧ many + 1 ≤ j + p.size ∧ last < j + p.size ∧ j + p.size ≤ 1000000 := by
  obtain ⟨h1, h2, _⟩ := idx_some h
  have hw1 : wrap64 ((many : Int) + 1) = ((many + 1 : Nat) : Int) := by unfold wrap64; omega
  have hw2 : wrap64 ((j : Int) + (p.size : Int)) = ((j + p.size : Nat) : Int) := by unfold wrap64; omega
  refine ⟨by omega, by omega, by omega, by omega, by omega, hw1, hw2, by omega, by omega, by omega, by omega, by omega, by omega, by omega, by omega, by omega⟩
theorem idxI_none : idxI none = -1 := rfl
theorem idxI_some (k : Nat) : idxI (some k) = (k : Int) := rfl

set_option maxRecDepth 100000 in
set_option maxHeartbeats 4000000 in
theorem substitute3 (s p q : ByteArray) (v : Value) (w : World) (hr : Row w w.heap.size 5 v (([⟨2, 0, 0, s⟩, ⟨2, 0, 0, p⟩, ⟨2, 0, 0, q⟩] : List FV).map FV.list)) (ha : asciiB s = true) (hb : asciiB p = true) (hc : asciiB q = true) (hs : s.size ≤ 1000000) (hp : p.size ≤ 1000000) (hq : q.size ≤ 1000000) (hp0 : 0 < p.size) :
    Calls Tryz.prog 121 #[v] w fun e w' => e = .returned (.agg #[.int .i64 (cap (sub s p q 0)).kind, .int .i64 (cap (sub s p q 0)).num, .int .i64 (cap (sub s p q 0)).den, .string (cap (sub s p q 0)).text, .slice none 0 0]) ∧ Below w.heap.size w w' := by
  obtain ⟨R, hRR⟩ : ∃ R, R = sub s p q 0 := ⟨_, rfl⟩
  rw [← hRR]
  have HRR := Lib.hid hRR
  clear hRR
  have hie := isE_false hp0
  have HIE := Lib.hid hie
  have HAT : Hid (∀ (i : Nat) (W : World), i ≤ 1000000 → Calls Tryz.prog 216 #[.string p, .string s, .int .i64 (i : Int)] W fun e w' => e = .returned (.int .i64 (idxI (idx p s i))) ∧ w' = W) := fun i W hi => (at_any p s i W (by omega) (by omega) (by omega)).mono fun e w' ⟨h1, h2⟩ => ⟨h1, h2.symm⟩
  have HAT0 : Hid (∀ W : World, Calls Tryz.prog 216 #[.string p, .string s, .int .i64 0] W fun e w' => e = .returned (.int .i64 (idxI (idx p s 0))) ∧ w' = W) := fun W => HAT.out 0 W (by omega)
  have HA : Hid (∀ x ∈ ([⟨2, 0, 0, s⟩, ⟨2, 0, 0, p⟩, ⟨2, 0, 0, q⟩] : List FV), asciiB x.text = true) := by
    intro x hx
    simp at hx
    rcases hx with rfl | rfl | rfl
    · exact ha
    · exact hb
    · exact hc
  have HZ : Hid (∀ x ∈ ([⟨2, 0, 0, s⟩, ⟨2, 0, 0, p⟩, ⟨2, 0, 0, q⟩] : List FV), x.text.size ≤ 1000000000) := by
    intro x hx
    simp at hx
    rcases hx with rfl | rfl | rfl
    · exact Nat.le_trans hs (by omega)
    · exact Nat.le_trans hp (by omega)
    · exact Nat.le_trans hq (by omega)
  have HS : Hid (s.size ≤ 1000000) := hs
  have HP : Hid (p.size ≤ 1000000) := hp
  have HP0 : Hid (0 < p.size) := hp0
  have HQS : Hid (q.size ≤ 1000000) := hq
  have HR : Hid (∀ W, Below w.heap.size w W → Row W W.heap.size 5 v (([⟨2, 0, 0, s⟩, ⟨2, 0, 0, p⟩, ⟨2, 0, 0, q⟩] : List FV).map FV.list)) := fun W hW => (hr.below hW).more hW.size
  obtain ⟨A, c, rfl, hc1, hc2, hc3⟩ := hr
  obtain ⟨g, o, rfl, hg, hcell⟩ := hc3 (by simp)
  have HT : Hid (∀ W, Below w.heap.size w W → Row W W.heap.size 5 (.slice (some ⟨g, o, none⟩) 3 c) (([⟨2, 0, 0, s⟩, ⟨2, 0, 0, p⟩, ⟨2, 0, 0, q⟩] : List FV).map FV.list)) := fun W hW => by
    have := Row.part (HR.out W hW) 0 3 c (by simp) (by simp at hc1; omega)
    simpa using this
  have hl : (([⟨2, 0, 0, s⟩, ⟨2, 0, 0, p⟩, ⟨2, 0, 0, q⟩] : List FV).map FV.list).length = 3 := rfl
  rw [hl] at hc1 HR ⊢
  have hci : (3 : Int) ≤ (c : Int) := by omega
  have hci3 : (3 : Int) ≤ (c : Int) := by omega
  have hu26 := Tryz.underlying34
  have pb0 : Below w.heap.size w (w.alloc (.cells #[.int .i64 0, .int .i64 0, .int .i64 0, .string ⟨#[]⟩, .slice none 0 0] 34)) := (Below.refl _ _).alloc (Nat.le_refl _) _
  clear hcell hc3 hc2 hl ha hb hc hs hp hq hp0
  go_enter Tryz.func121, Tryz.ntmps121
  go_wp2_with (first
    | (go_at_call 205; refine (first_clean [⟨2, 0, 0, s⟩, ⟨2, 0, 0, p⟩, ⟨2, 0, 0, q⟩] _ _ (HR.out _ pb0) (by simp) (by simp)).mono ?_; rintro e w1 ⟨rfl, hb1⟩; obtain ⟨c1, f1, z1, k1⟩ := box_cells (heap_new1 w _) hb1; have pb1 := below_next pb0 pb0.size hb1; have pb1' := pb1.alloc pb1.size (.cells #[.int .i64 0, .int .i64 0, .int .i64 0, .string ⟨#[]⟩, .slice none 0 0] 34))
    | (go_at_call 210; refine (texts_str [⟨2, 0, 0, s⟩, ⟨2, 0, 0, p⟩, ⟨2, 0, 0, q⟩] _ _ (HT.out _ pb1') (by simp) HA.out HZ.out (by simp)).mono ?_; rintro e w2 ⟨v2, rfl, hR2, hb2⟩; obtain ⟨c2, f2, z2, k2⟩ := box_later k1 hb2; have pb2 := below_next pb1' pb1'.size hb2; clear c1 f1; obtain ⟨gs, os, cs, rfl, hcs, hgs, hs0⟩ := hR2.at_ (k := 0) rfl; have hs1 := at_same hR2 1 _ rfl; have hs2 := at_same hR2 2 _ rfl; have hcsi : (3 : Int) ≤ (cs : Int) := Int.ofNat_le.2 hcs; have HQ : Hid (∀ W, Below w2.heap.size w2 W → W.cell? ⟨gs, os, none⟩ = some (.string s) ∧ W.cell? ⟨gs, os + 1, none⟩ = some (.string p) ∧ W.cell? ⟨gs, os + 2, none⟩ = some (.string q)) := (fun W hW => ⟨(hW.cell (p := ⟨gs, os, none⟩) hgs).trans (hs0 0 _ rfl), (hW.cell (p := ⟨gs, os + 1, none⟩) hgs).trans hs1, (hW.cell (p := ⟨gs, os + 2, none⟩) hgs).trans hs2⟩); have pbz := (Below.refl w2.heap.size w2).alloc (Nat.le_refl _) (.cells #[.int .i64 0, .int .i64 0, .int .i64 0, .string ⟨#[]⟩, .slice none 0 0] 34); obtain ⟨q0, q1, q2⟩ := HQ.out _ pbz; clear hs0 hs1 hs2 hR2))
  go_quiet (first | (go_at_call 216; exact Calls.quiet_of_same (HAT0.out _)))
  obtain ⟨W2, hW2⟩ : ∃ W2 : World, W2 = w2.alloc (.cells #[.int .i64 0, .int .i64 0, .int .i64 0, .string ⟨#[]⟩, .slice none 0 0] 34) := ⟨_, rfl⟩
  rw [← hW2] at pbz q0 q1 q2 ⊢
  have pbW : Below w.heap.size w W2 := pb2.trans (pbz.mono pb2.size)
  have kW := (pbz.block _ z2).trans k2
  have hgW : gs < W2.heap.size := Nat.lt_of_lt_of_le hgs pbz.size
  clear hW2 hb1 hb2 c2 f2 z1 k1 z2 k2 pbz
  go_wp2
  go_loopw [12, 13, 14, 15] (fun x y u k wr => ∃ (n last many : Nat) (O : ByteArray), wr = W2.drewN n ∧ x = .string O ∧ y = .int .i64 (last : Int) ∧ u = .int .i64 (many : Int) ∧ k = .int .i64 (idxI (idx p s last)) ∧ last ≤ s.size ∧ many ≤ last ∧ O.size ≤ 1000001 * last ∧ subF s p q 0 O last many = R) (fun _ y _ _ _ => s.size + 1 - (intOf y).toNat)
  case atStart => exact ⟨nq, 0, 0, ⟨#[]⟩, rfl, rfl, rfl, rfl, rfl, Nat.zero_le _, Nat.le_refl _, Nat.le_refl _, HRR.out.symm⟩
  case round =>
    obtain ⟨n, last, many, O, rfl, rfl, rfl, rfl, rfl, hl, hm, hO, hsub⟩ := hrel
    cases hi : idx p s last with
    | none =>
      rw [idxI_none]
      have he : O ++ s.extract last s.size = R := by rw [← hsub, subF_none hi]
      have HE := Lib.hid he
      have hRs : R.size = O.size + (s.size - last) := by rw [← he, ByteArray.size_append, ByteArray.size_extract, Nat.min_self]
      obtain ⟨h1, h2, hz⟩ := end_nums HS.out hl hO
      by_cases hc : 20000 < R.size
      · have HCAP : Hid (cap R = ⟨6, 0, 0, ⟨#[]⟩⟩) := by rw [Hid]; unfold cap; rw [if_pos hc]
        rw [hRs] at hc
        have hc2 : (20000 : Int) < (O.size : Int) + ((s.size - last : Nat) : Int) := by omega
        clear hsub hi hm hl he hO hRs
        go_wp2_with (go_at_call 41; refine (doubt_any _).mono ?_; rintro e w4 ⟨rfl, hb4⟩; obtain ⟨c4, f4, z4, k4⟩ := box_cells (W := W2.drewN n) kW hb4; have pb4 := below_next pbW pbW.size (Below.ofDrewN hb4))
        rw [HCAP.out]
        refine bodyPost_ret (v := .agg #[.int .i64 6, .int .i64 0, .int .i64 0, .string ⟨#[]⟩, .slice none 0 0]) (by simp [results, Tryz.results121, go_sem, c4]) rfl ⟨rfl, ?_⟩
        clear c4 f4
        (repeat refine below_set0 ?_ _ _)
        exact pb4
      · have HCAP : Hid (cap R = ⟨2, 0, 0, R⟩) := by rw [Hid]; unfold cap; rw [if_neg hc]
        rw [hRs] at hc
        have hc2 : ¬ (20000 : Int) < (O.size : Int) + ((s.size - last : Nat) : Int) := by omega
        clear hsub hi hm hl he hO hRs
        go_wp2_with (go_at_call 15; refine (str_any _ _).mono ?_; rintro e w4 ⟨rfl, hb4⟩; obtain ⟨c4, f4, z4, k4⟩ := box_cells (W := W2.drewN n) kW hb4; have pb4 := below_next pbW pbW.size (Below.ofDrewN hb4))
        rw [HCAP.out, ← HE.out]
        refine bodyPost_ret (v := .agg #[.int .i64 2, .int .i64 0, .int .i64 0, .string (O ++ s.extract last s.size), .slice none 0 0]) (by simp [results, Tryz.results121, go_sem, c4]) rfl ⟨rfl, ?_⟩
        clear c4 f4
        (repeat refine below_set0 ?_ _ _)
        exact pb4
    | some j =>
      rw [idxI_some]
      obtain ⟨h1, h2, h3, h4, h5, hw1, hw2, hm1, hz1, hz2, hz3, hO2, hf1, hf2, hf3, hf4⟩ := step_nums hi HP0.out HS.out HQS.out hm hO
      have HO : Hid ((O ++ s.extract last j ++ q).size ≤ 1000001 * (j + p.size)) := step_size (by rw [ByteArray.size_extract, hm1]) HQS.out hO2
      have HMS : Hid (s.size + 1 - (intOf (.int .i64 ((j : Int) + (p.size : Int)))).toNat < s.size + 1 - (intOf (.int .i64 (last : Int))).toNat) := step_measure hf1 hf3
      have hsub2 := hsub
      rw [subF_some HP0.out hi] at hsub2
      have HSUB := Lib.hid hsub2
      have HF : Hid (j + p.size ≤ s.size ∧ many + 1 ≤ j + p.size ∧ last < j + p.size ∧ j + p.size ≤ 1000000) := ⟨hf1, hf2, hf3, hf4⟩
      have HAT1 : Hid (∀ W : World, Calls Tryz.prog 216 #[.string p, .string s, .int .i64 ((j : Int) + (p.size : Int))] W fun e w' => e = .returned (.int .i64 (idxI (idx p s (j + p.size)))) ∧ w' = W) := fun W => by
        have := HAT.out (j + p.size) W HF.out.2.2.2
        rwa [Int.natCast_add] at this
      clear hsub hsub2 hi hm hl hO hO2 hf1 hf2 hf3 hf4
      obtain ⟨WN, hWN⟩ : ∃ WN, WN = W2.drewN n := ⟨_, rfl⟩
      have q0 : WN.cell? ⟨gs, os, none⟩ = some (.string s) := by rw [hWN]; exact q0
      have q1 : WN.cell? ⟨gs, os + 1, none⟩ = some (.string p) := by rw [hWN]; exact q1
      have q2 : WN.cell? ⟨gs, os + 2, none⟩ = some (.string q) := by rw [hWN]; exact q2
      rw [← hWN]
      have HWN := Lib.hid hWN
      clear hWN
      go_wp2
      go_quiet (first | (go_at_call 216; exact Calls.quiet_of_same (HAT1.out _)))
      go_wp2
      go_roundw
      case rel => exact ⟨n + nq, j + p.size, many + 1, O ++ s.extract last j ++ q, by rw [HWN.out]; exact World.drewN_drewN _ _ _, rfl, by rw [Int.natCast_add], by rw [Int.natCast_add]; rfl, rfl, HF.out.1, HF.out.2.1, HO.out, HSUB.out⟩
      case measure => exact HMS.out
set_option maxRecDepth 100000 in
set_option maxHeartbeats 4000000 in
theorem substitute4 (s p q : ByteArray) (m : Nat) (v : Value) (w : World) (hr : Row w w.heap.size 5 v (([⟨2, 0, 0, s⟩, ⟨2, 0, 0, p⟩, ⟨2, 0, 0, q⟩, ⟨1, ((m : Int) + 1), 1, ⟨#[]⟩⟩] : List FV).map FV.list)) (ha : asciiB s = true) (hb : asciiB p = true) (hc : asciiB q = true) (hs : s.size ≤ 1000000) (hp : p.size ≤ 1000000) (hq : q.size ≤ 1000000) (hp0 : 0 < p.size) (h0 : m ≤ 1000000) :
    Calls Tryz.prog 121 #[v] w fun e w' => e = .returned (.agg #[.int .i64 (cap (sub s p q (m + 1))).kind, .int .i64 (cap (sub s p q (m + 1))).num, .int .i64 (cap (sub s p q (m + 1))).den, .string (cap (sub s p q (m + 1))).text, .slice none 0 0]) ∧ Below w.heap.size w w' := by
  obtain ⟨R, hRR⟩ : ∃ R, R = sub s p q (m + 1) := ⟨_, rfl⟩
  rw [← hRR]
  have HRR := Lib.hid hRR
  clear hRR
  have hie := isE_false hp0
  have HIE := Lib.hid hie
  have HAT : Hid (∀ (i : Nat) (W : World), i ≤ 1000000 → Calls Tryz.prog 216 #[.string p, .string s, .int .i64 (i : Int)] W fun e w' => e = .returned (.int .i64 (idxI (idx p s i))) ∧ w' = W) := fun i W hi => (at_any p s i W (by omega) (by omega) (by omega)).mono fun e w' ⟨h1, h2⟩ => ⟨h1, h2.symm⟩
  have HAT0 : Hid (∀ W : World, Calls Tryz.prog 216 #[.string p, .string s, .int .i64 0] W fun e w' => e = .returned (.int .i64 (idxI (idx p s 0))) ∧ w' = W) := fun W => HAT.out 0 W (by omega)
  have HA : Hid (∀ x ∈ ([⟨2, 0, 0, s⟩, ⟨2, 0, 0, p⟩, ⟨2, 0, 0, q⟩] : List FV), asciiB x.text = true) := by
    intro x hx
    simp at hx
    rcases hx with rfl | rfl | rfl
    · exact ha
    · exact hb
    · exact hc
  have HZ : Hid (∀ x ∈ ([⟨2, 0, 0, s⟩, ⟨2, 0, 0, p⟩, ⟨2, 0, 0, q⟩] : List FV), x.text.size ≤ 1000000000) := by
    intro x hx
    simp at hx
    rcases hx with rfl | rfl | rfl
    · exact Nat.le_trans hs (by omega)
    · exact Nat.le_trans hp (by omega)
    · exact Nat.le_trans hq (by omega)
  have HS : Hid (s.size ≤ 1000000) := hs
  have HP : Hid (p.size ≤ 1000000) := hp
  have HP0 : Hid (0 < p.size) := hp0
  have HQS : Hid (q.size ≤ 1000000) := hq
  have HR : Hid (∀ W, Below w.heap.size w W → Row W W.heap.size 5 v (([⟨2, 0, 0, s⟩, ⟨2, 0, 0, p⟩, ⟨2, 0, 0, q⟩, ⟨1, ((m : Int) + 1), 1, ⟨#[]⟩⟩] : List FV).map FV.list)) := fun W hW => (hr.below hW).more hW.size
  obtain ⟨A, c, rfl, hc1, hc2, hc3⟩ := hr
  obtain ⟨g, o, rfl, hg, hcell⟩ := hc3 (by simp)
  have HT : Hid (∀ W, Below w.heap.size w W → Row W W.heap.size 5 (.slice (some ⟨g, o, none⟩) 3 c) (([⟨2, 0, 0, s⟩, ⟨2, 0, 0, p⟩, ⟨2, 0, 0, q⟩] : List FV).map FV.list)) := fun W hW => by
    have := Row.part (HR.out W hW) 0 3 c (by simp) (by simp at hc1; omega)
    simpa using this
  have HN : Hid (∀ W, Below w.heap.size w W → Row W W.heap.size 5 (.slice (some ⟨g, o + 3 * 5, none⟩) 1 (c - 3)) (([⟨1, ((m : Int) + 1), 1, ⟨#[]⟩⟩] : List FV).map FV.list)) := fun W hW => by
    have := Row.part (HR.out W hW) 3 1 (c - 3) (by simp) (by simp at hc1; omega)
    simpa using this
  have hl : (([⟨2, 0, 0, s⟩, ⟨2, 0, 0, p⟩, ⟨2, 0, 0, q⟩, ⟨1, ((m : Int) + 1), 1, ⟨#[]⟩⟩] : List FV).map FV.list).length = 4 := rfl
  rw [hl] at hc1 HR ⊢
  have hci : (4 : Int) ≤ (c : Int) := by omega
  have hci3 : (3 : Int) ≤ (c : Int) := by omega
  have hu26 := Tryz.underlying34
  have pb0 : Below w.heap.size w (w.alloc (.cells #[.int .i64 0, .int .i64 0, .int .i64 0, .string ⟨#[]⟩, .slice none 0 0] 34)) := (Below.refl _ _).alloc (Nat.le_refl _) _
  have n1 : ¬ (m : Int) + 1 < 1 := by omega
  have n2 : ¬ (m : Int) + 1 = 0 := by omega
  have n3 : m + 1 ≠ 0 := by omega
  clear hcell hc3 hc2 hl ha hb hc hs hp hq hp0
  go_enter Tryz.func121, Tryz.ntmps121
  go_wp2_with (first
    | (go_at_call 205; refine (first_clean [⟨2, 0, 0, s⟩, ⟨2, 0, 0, p⟩, ⟨2, 0, 0, q⟩, ⟨1, ((m : Int) + 1), 1, ⟨#[]⟩⟩] _ _ (HR.out _ pb0) (by simp) (by simp)).mono ?_; rintro e w1 ⟨rfl, hb1⟩; obtain ⟨c1, f1, z1, k1⟩ := box_cells (heap_new1 w _) hb1; have pb1 := below_next pb0 pb0.size hb1; have pb1' := pb1.alloc pb1.size (.cells #[.int .i64 0, .int .i64 0, .int .i64 0, .string ⟨#[]⟩, .slice none 0 0] 34))
    | (go_at_call 210; refine (texts_str [⟨2, 0, 0, s⟩, ⟨2, 0, 0, p⟩, ⟨2, 0, 0, q⟩] _ _ (HT.out _ pb1') (by simp) HA.out HZ.out (by simp)).mono ?_; rintro e w2 ⟨v2, rfl, hR2, hb2⟩; obtain ⟨c2, f2, z2, k2⟩ := box_later k1 hb2; have pb2 := below_next pb1' pb1'.size hb2; clear c1 f1; obtain ⟨gs, os, cs, rfl, hcs, hgs, hs0⟩ := hR2.at_ (k := 0) rfl; have hs1 := at_same hR2 1 _ rfl; have hs2 := at_same hR2 2 _ rfl; have hcsi : (3 : Int) ≤ (cs : Int) := Int.ofNat_le.2 hcs; have HQ : Hid (∀ W, Below w2.heap.size w2 W → W.cell? ⟨gs, os, none⟩ = some (.string s) ∧ W.cell? ⟨gs, os + 1, none⟩ = some (.string p) ∧ W.cell? ⟨gs, os + 2, none⟩ = some (.string q)) := (fun W hW => ⟨(hW.cell (p := ⟨gs, os, none⟩) hgs).trans (hs0 0 _ rfl), (hW.cell (p := ⟨gs, os + 1, none⟩) hgs).trans hs1, (hW.cell (p := ⟨gs, os + 2, none⟩) hgs).trans hs2⟩); have pbz := (Below.refl w2.heap.size w2).alloc (Nat.le_refl _) (.cells #[.int .i64 0, .int .i64 0, .int .i64 0, .string ⟨#[]⟩, .slice none 0 0] 34); obtain ⟨q0, q1, q2⟩ := HQ.out _ pbz; clear hs0 hs1 hs2 hR2)
    | (go_at_call 195; refine (wholes_own [⟨1, ((m : Int) + 1), 1, ⟨#[]⟩⟩] _ _ (HN.out _ (pb2.trans (pbz.mono pb2.size))) (by simp) (by simp) (by simp)).mono ?_; rintro e w3 ⟨v3, b, rfl, hbb, hO3, hb3⟩; have pb3 : Below w2.heap.size w2 w3 := pbz.trans (hb3.mono pbz.size); have pbz3 := pb3.alloc pb3.size (.cells #[.int .i64 0, .int .i64 0, .int .i64 0, .string ⟨#[]⟩, .slice none 0 0] 34); obtain ⟨g3, o3, c3, rfl, hc3, hg3, h3c⟩ := hO3.row.at_ (k := 0) rfl; have p0 := h3c 0 _ rfl; simp only [Nat.zero_mul, Nat.add_zero] at p0; have hc3i : (1 : Int) ≤ (c3 : Int) := Int.ofNat_le.2 hc3; obtain ⟨q0, q1, q2⟩ := HQ.out _ pbz3; clear hO3 h3c hbb))
  go_quiet (first | (go_at_call 216; exact Calls.quiet_of_same (HAT0.out _)))
  obtain ⟨W2, hW2⟩ : ∃ W2 : World, W2 = w3.alloc (.cells #[.int .i64 0, .int .i64 0, .int .i64 0, .string ⟨#[]⟩, .slice none 0 0] 34) := ⟨_, rfl⟩
  rw [← hW2] at pbz3 q0 q1 q2 ⊢
  clear pbz
  have pbz := pbz3
  have pbW : Below w.heap.size w W2 := pb2.trans (pbz.mono pb2.size)
  have kW := (pbz.block _ z2).trans k2
  have hgW : gs < W2.heap.size := Nat.lt_of_lt_of_le hgs pbz.size
  clear hW2 hb1 hb2 c2 f2 z1 k1 z2 k2 pbz
  go_wp2
  go_loopw [12, 13, 14, 15] (fun x y u k wr => ∃ (n last many : Nat) (O : ByteArray), wr = W2.drewN n ∧ x = .string O ∧ y = .int .i64 (last : Int) ∧ u = .int .i64 (many : Int) ∧ k = .int .i64 (idxI (idx p s last)) ∧ last ≤ s.size ∧ many ≤ last ∧ O.size ≤ 1000001 * last ∧ subF s p q (m + 1) O last many = R) (fun _ y _ _ _ => s.size + 1 - (intOf y).toNat)
  case atStart => exact ⟨nq, 0, 0, ⟨#[]⟩, rfl, rfl, rfl, rfl, rfl, Nat.zero_le _, Nat.le_refl _, Nat.le_refl _, HRR.out.symm⟩
  case round =>
    obtain ⟨n, last, many, O, rfl, rfl, rfl, rfl, rfl, hl, hm, hO, hsub⟩ := hrel
    cases hi : idx p s last with
    | none =>
      rw [idxI_none]
      have he : O ++ s.extract last s.size = R := by rw [← hsub, subF_none hi]
      have HE := Lib.hid he
      have hRs : R.size = O.size + (s.size - last) := by rw [← he, ByteArray.size_append, ByteArray.size_extract, Nat.min_self]
      obtain ⟨h1, h2, hz⟩ := end_nums HS.out hl hO
      by_cases hc : 20000 < R.size
      · have HCAP : Hid (cap R = ⟨6, 0, 0, ⟨#[]⟩⟩) := by rw [Hid]; unfold cap; rw [if_pos hc]
        rw [hRs] at hc
        have hc2 : (20000 : Int) < (O.size : Int) + ((s.size - last : Nat) : Int) := by omega
        clear hsub hi hm hl he hO hRs
        go_wp2_with (go_at_call 41; refine (doubt_any _).mono ?_; rintro e w4 ⟨rfl, hb4⟩; obtain ⟨c4, f4, z4, k4⟩ := box_cells (W := W2.drewN n) kW hb4; have pb4 := below_next pbW pbW.size (Below.ofDrewN hb4))
        rw [HCAP.out]
        refine bodyPost_ret (v := .agg #[.int .i64 6, .int .i64 0, .int .i64 0, .string ⟨#[]⟩, .slice none 0 0]) (by simp [results, Tryz.results121, go_sem, c4]) rfl ⟨rfl, ?_⟩
        clear c4 f4
        (repeat refine below_set0 ?_ _ _)
        exact pb4
      · have HCAP : Hid (cap R = ⟨2, 0, 0, R⟩) := by rw [Hid]; unfold cap; rw [if_neg hc]
        rw [hRs] at hc
        have hc2 : ¬ (20000 : Int) < (O.size : Int) + ((s.size - last : Nat) : Int) := by omega
        clear hsub hi hm hl he hO hRs
        go_wp2_with (go_at_call 15; refine (str_any _ _).mono ?_; rintro e w4 ⟨rfl, hb4⟩; obtain ⟨c4, f4, z4, k4⟩ := box_cells (W := W2.drewN n) kW hb4; have pb4 := below_next pbW pbW.size (Below.ofDrewN hb4))
        rw [HCAP.out, ← HE.out]
        refine bodyPost_ret (v := .agg #[.int .i64 2, .int .i64 0, .int .i64 0, .string (O ++ s.extract last s.size), .slice none 0 0]) (by simp [results, Tryz.results121, go_sem, c4]) rfl ⟨rfl, ?_⟩
        clear c4 f4
        (repeat refine below_set0 ?_ _ _)
        exact pb4
    | some j =>
      rw [idxI_some]
      by_cases hmm : many = m
      · obtain ⟨h1, h2, h3, h4, h5, hw1, hw2, hm1, hz1, hz2, hz3, hO2, hf1, hf2, hf3, hf4⟩ := step_nums hi HP0.out HS.out HQS.out hm hO
        have HO : Hid ((O ++ s.extract last j ++ q).size ≤ 1000001 * (j + p.size)) := step_size (by rw [ByteArray.size_extract, hm1]) HQS.out hO2
        have HMS : Hid (s.size + 1 - (intOf (.int .i64 ((j : Int) + (p.size : Int)))).toNat < s.size + 1 - (intOf (.int .i64 (last : Int))).toNat) := step_measure hf1 hf3
        have hsub2 := hsub
        rw [subF_some HP0.out hi] at hsub2
        rw [if_pos (Or.inr (congrArg (· + 1) hmm))] at hsub2
        subst hmm
        have HSUB := Lib.hid hsub2
        have HF : Hid (j + p.size ≤ s.size ∧ many + 1 ≤ j + p.size ∧ last < j + p.size ∧ j + p.size ≤ 1000000) := ⟨hf1, hf2, hf3, hf4⟩
        have HAT1 : Hid (∀ W : World, Calls Tryz.prog 216 #[.string p, .string s, .int .i64 ((j : Int) + (p.size : Int))] W fun e w' => e = .returned (.int .i64 (idxI (idx p s (j + p.size)))) ∧ w' = W) := fun W => by
          have := HAT.out (j + p.size) W HF.out.2.2.2
          rwa [Int.natCast_add] at this
        clear hsub hsub2 hi hm hl hO hO2 hf1 hf2 hf3 hf4
        obtain ⟨WN, hWN⟩ : ∃ WN, WN = W2.drewN n := ⟨_, rfl⟩
        have q0 : WN.cell? ⟨gs, os, none⟩ = some (.string s) := by rw [hWN]; exact q0
        have q1 : WN.cell? ⟨gs, os + 1, none⟩ = some (.string p) := by rw [hWN]; exact q1
        have q2 : WN.cell? ⟨gs, os + 2, none⟩ = some (.string q) := by rw [hWN]; exact q2
        rw [← hWN]
        have HWN := Lib.hid hWN
        clear hWN
        go_wp2
        go_quiet (first | (go_at_call 216; exact Calls.quiet_of_same (HAT1.out _)))
        go_wp2
        go_roundw
        case rel => exact ⟨n + nq, j + p.size, many + 1, O ++ s.extract last j ++ q, by rw [HWN.out]; exact World.drewN_drewN _ _ _, rfl, by rw [Int.natCast_add], by rw [Int.natCast_add]; rfl, rfl, HF.out.1, HF.out.2.1, HO.out, HSUB.out⟩
        case measure => exact HMS.out
      · obtain ⟨h1, h2, h3, h4, h5, hw1, hw2, hm1, hz1, hz2, hz3, hO2, hf1, hf2, hf3, hf4⟩ := step_nums hi HP0.out HS.out HQS.out hm hO
        have HO : Hid ((O ++ s.extract last j ++ p).size ≤ 1000001 * (j + p.size)) := step_size (by rw [ByteArray.size_extract, hm1]) HP.out hO2
        have HMS : Hid (s.size + 1 - (intOf (.int .i64 ((j : Int) + (p.size : Int)))).toNat < s.size + 1 - (intOf (.int .i64 (last : Int))).toNat) := step_measure hf1 hf3
        have hsub2 := hsub
        rw [subF_some HP0.out hi] at hsub2
        rw [if_neg (fun h => h.elim n3 fun h => hmm (Nat.succ.inj h))] at hsub2
        have hmi2 := four_ne hmm
        have hmi3 := four_zero m
        have HSUB := Lib.hid hsub2
        have HF : Hid (j + p.size ≤ s.size ∧ many + 1 ≤ j + p.size ∧ last < j + p.size ∧ j + p.size ≤ 1000000) := ⟨hf1, hf2, hf3, hf4⟩
        have HAT1 : Hid (∀ W : World, Calls Tryz.prog 216 #[.string p, .string s, .int .i64 ((j : Int) + (p.size : Int))] W fun e w' => e = .returned (.int .i64 (idxI (idx p s (j + p.size)))) ∧ w' = W) := fun W => by
          have := HAT.out (j + p.size) W HF.out.2.2.2
          rwa [Int.natCast_add] at this
        clear hsub hsub2 hi hm hl hO hO2 hf1 hf2 hf3 hf4
        obtain ⟨WN, hWN⟩ : ∃ WN, WN = W2.drewN n := ⟨_, rfl⟩
        have q0 : WN.cell? ⟨gs, os, none⟩ = some (.string s) := by rw [hWN]; exact q0
        have q1 : WN.cell? ⟨gs, os + 1, none⟩ = some (.string p) := by rw [hWN]; exact q1
        have q2 : WN.cell? ⟨gs, os + 2, none⟩ = some (.string q) := by rw [hWN]; exact q2
        rw [← hWN]
        have HWN := Lib.hid hWN
        clear hWN
        go_wp2
        go_quiet (first | (go_at_call 216; exact Calls.quiet_of_same (HAT1.out _)))
        go_wp2
        go_roundw
        case rel => exact ⟨n + nq, j + p.size, many + 1, O ++ s.extract last j ++ p, by rw [HWN.out]; exact World.drewN_drewN _ _ _, rfl, by rw [Int.natCast_add], by rw [Int.natCast_add]; rfl, rfl, HF.out.1, HF.out.2.1, HO.out, HSUB.out⟩
        case measure => exact HMS.out
set_option maxRecDepth 100000 in
set_option maxHeartbeats 4000000 in
theorem substitute4n (s p q : ByteArray) (n : Int) (v : Value) (w : World) (hr : Row w w.heap.size 5 v (([⟨2, 0, 0, s⟩, ⟨2, 0, 0, p⟩, ⟨2, 0, 0, q⟩, ⟨1, n, 1, ⟨#[]⟩⟩] : List FV).map FV.list)) (ha : asciiB s = true) (hb : asciiB p = true) (hc : asciiB q = true) (hs : s.size ≤ 1000000) (hp : p.size ≤ 1000000) (hq : q.size ≤ 1000000) (hp0 : 0 < p.size) (h0 : n < 1) :
    Calls Tryz.prog 121 #[v] w fun e w' => e = .returned (.agg #[.int .i64 4, .int .i64 0, .int .i64 0, .string errV, .slice none 0 0]) ∧ Below w.heap.size w w' := by
  have hie := isE_false hp0
  have HIE := Lib.hid hie
  have HAT : Hid (∀ (i : Nat) (W : World), i ≤ 1000000 → Calls Tryz.prog 216 #[.string p, .string s, .int .i64 (i : Int)] W fun e w' => e = .returned (.int .i64 (idxI (idx p s i))) ∧ w' = W) := fun i W hi => (at_any p s i W (by omega) (by omega) (by omega)).mono fun e w' ⟨h1, h2⟩ => ⟨h1, h2.symm⟩
  have HAT0 : Hid (∀ W : World, Calls Tryz.prog 216 #[.string p, .string s, .int .i64 0] W fun e w' => e = .returned (.int .i64 (idxI (idx p s 0))) ∧ w' = W) := fun W => HAT.out 0 W (by omega)
  have HA : Hid (∀ x ∈ ([⟨2, 0, 0, s⟩, ⟨2, 0, 0, p⟩, ⟨2, 0, 0, q⟩] : List FV), asciiB x.text = true) := by
    intro x hx
    simp at hx
    rcases hx with rfl | rfl | rfl
    · exact ha
    · exact hb
    · exact hc
  have HZ : Hid (∀ x ∈ ([⟨2, 0, 0, s⟩, ⟨2, 0, 0, p⟩, ⟨2, 0, 0, q⟩] : List FV), x.text.size ≤ 1000000000) := by
    intro x hx
    simp at hx
    rcases hx with rfl | rfl | rfl
    · exact Nat.le_trans hs (by omega)
    · exact Nat.le_trans hp (by omega)
    · exact Nat.le_trans hq (by omega)
  have HS : Hid (s.size ≤ 1000000) := hs
  have HP : Hid (p.size ≤ 1000000) := hp
  have HP0 : Hid (0 < p.size) := hp0
  have HQS : Hid (q.size ≤ 1000000) := hq
  have HR : Hid (∀ W, Below w.heap.size w W → Row W W.heap.size 5 v (([⟨2, 0, 0, s⟩, ⟨2, 0, 0, p⟩, ⟨2, 0, 0, q⟩, ⟨1, n, 1, ⟨#[]⟩⟩] : List FV).map FV.list)) := fun W hW => (hr.below hW).more hW.size
  obtain ⟨A, c, rfl, hc1, hc2, hc3⟩ := hr
  obtain ⟨g, o, rfl, hg, hcell⟩ := hc3 (by simp)
  have HT : Hid (∀ W, Below w.heap.size w W → Row W W.heap.size 5 (.slice (some ⟨g, o, none⟩) 3 c) (([⟨2, 0, 0, s⟩, ⟨2, 0, 0, p⟩, ⟨2, 0, 0, q⟩] : List FV).map FV.list)) := fun W hW => by
    have := Row.part (HR.out W hW) 0 3 c (by simp) (by simp at hc1; omega)
    simpa using this
  have HN : Hid (∀ W, Below w.heap.size w W → Row W W.heap.size 5 (.slice (some ⟨g, o + 3 * 5, none⟩) 1 (c - 3)) (([⟨1, n, 1, ⟨#[]⟩⟩] : List FV).map FV.list)) := fun W hW => by
    have := Row.part (HR.out W hW) 3 1 (c - 3) (by simp) (by simp at hc1; omega)
    simpa using this
  have hl : (([⟨2, 0, 0, s⟩, ⟨2, 0, 0, p⟩, ⟨2, 0, 0, q⟩, ⟨1, n, 1, ⟨#[]⟩⟩] : List FV).map FV.list).length = 4 := rfl
  rw [hl] at hc1 HR ⊢
  have hci : (4 : Int) ≤ (c : Int) := by omega
  have hci3 : (3 : Int) ≤ (c : Int) := by omega
  have hu26 := Tryz.underlying34
  have pb0 : Below w.heap.size w (w.alloc (.cells #[.int .i64 0, .int .i64 0, .int .i64 0, .string ⟨#[]⟩, .slice none 0 0] 34)) := (Below.refl _ _).alloc (Nat.le_refl _) _
  have n1 : n < 1 := h0
  clear hcell hc3 hc2 hl ha hb hc hs hp hq hp0
  go_enter Tryz.func121, Tryz.ntmps121
  go_wp2_with (first
    | (go_at_call 205; refine (first_clean [⟨2, 0, 0, s⟩, ⟨2, 0, 0, p⟩, ⟨2, 0, 0, q⟩, ⟨1, n, 1, ⟨#[]⟩⟩] _ _ (HR.out _ pb0) (by simp) (by simp)).mono ?_; rintro e w1 ⟨rfl, hb1⟩; obtain ⟨c1, f1, z1, k1⟩ := box_cells (heap_new1 w _) hb1; have pb1 := below_next pb0 pb0.size hb1; have pb1' := pb1.alloc pb1.size (.cells #[.int .i64 0, .int .i64 0, .int .i64 0, .string ⟨#[]⟩, .slice none 0 0] 34))
    | (go_at_call 210; refine (texts_str [⟨2, 0, 0, s⟩, ⟨2, 0, 0, p⟩, ⟨2, 0, 0, q⟩] _ _ (HT.out _ pb1') (by simp) HA.out HZ.out (by simp)).mono ?_; rintro e w2 ⟨v2, rfl, hR2, hb2⟩; obtain ⟨c2, f2, z2, k2⟩ := box_later k1 hb2; have pb2 := below_next pb1' pb1'.size hb2; clear c1 f1; obtain ⟨gs, os, cs, rfl, hcs, hgs, hs0⟩ := hR2.at_ (k := 0) rfl; have hs1 := at_same hR2 1 _ rfl; have hs2 := at_same hR2 2 _ rfl; have hcsi : (3 : Int) ≤ (cs : Int) := Int.ofNat_le.2 hcs; have HQ : Hid (∀ W, Below w2.heap.size w2 W → W.cell? ⟨gs, os, none⟩ = some (.string s) ∧ W.cell? ⟨gs, os + 1, none⟩ = some (.string p) ∧ W.cell? ⟨gs, os + 2, none⟩ = some (.string q)) := (fun W hW => ⟨(hW.cell (p := ⟨gs, os, none⟩) hgs).trans (hs0 0 _ rfl), (hW.cell (p := ⟨gs, os + 1, none⟩) hgs).trans hs1, (hW.cell (p := ⟨gs, os + 2, none⟩) hgs).trans hs2⟩); have pbz := (Below.refl w2.heap.size w2).alloc (Nat.le_refl _) (.cells #[.int .i64 0, .int .i64 0, .int .i64 0, .string ⟨#[]⟩, .slice none 0 0] 34); obtain ⟨q0, q1, q2⟩ := HQ.out _ pbz; clear hs0 hs1 hs2 hR2)
    | (go_at_call 195; refine (wholes_own [⟨1, n, 1, ⟨#[]⟩⟩] _ _ (HN.out _ (pb2.trans (pbz.mono pb2.size))) (by simp) (by simp) (by simp)).mono ?_; rintro e w3 ⟨v3, b, rfl, hbb, hO3, hb3⟩; have pb3 : Below w2.heap.size w2 w3 := pbz.trans (hb3.mono pbz.size); have pbz3 := pb3.alloc pb3.size (.cells #[.int .i64 0, .int .i64 0, .int .i64 0, .string ⟨#[]⟩, .slice none 0 0] 34); obtain ⟨g3, o3, c3, rfl, hc3, hg3, h3c⟩ := hO3.row.at_ (k := 0) rfl; have p0 := h3c 0 _ rfl; simp only [Nat.zero_mul, Nat.add_zero] at p0; have hc3i : (1 : Int) ≤ (c3 : Int) := Int.ofNat_le.2 hc3; obtain ⟨q0, q1, q2⟩ := HQ.out _ pbz3; clear hO3 h3c hbb)
    | (go_at_call 40; refine (err_any _ _).mono ?_; rintro e w4 ⟨rfl, hb4⟩; obtain ⟨c4, f4, z4, k4⟩ := box_cells ((pbz3.block _ z2).trans k2) hb4; have pb4 := below_next (pb2.trans (pbz3.mono pb2.size)) (pb2.trans (pbz3.mono pb2.size)).size hb4))
  refine bodyPost_ret (v := .agg #[.int .i64 4, .int .i64 0, .int .i64 0, .string errV, .slice none 0 0]) (by simp [results, Tryz.results121, go_sem, c4, errV]) rfl ⟨rfl, ?_⟩
  clear c4 f4
  (repeat refine below_set0 ?_ _ _)
  exact pb4

end Go.Proofs.YtopomonencffkaaGreatDoor
