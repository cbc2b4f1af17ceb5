/-
'cut' of the reference: LEFT, RIGHT and MID of a text.
-/
import Derived.Test.YtopomonencffkaaGreatDoorReadO
import Derived.Deep.QuietTactic
import Derived.BigQuiet
namespace Go.Proofs.YtopomonencffkaaGreatDoor
open Go.RowKit

/-- Where a slice of the call's own begins: in a block that is not below its base. -/
theorem Own.fresh {w : World} {base : Nat} {e : TypeId} {sz : Nat} {g o n c : Nat} {cs : List (List Value)} (h : Own w base e sz (.slice (some ⟨g, o, none⟩) n c) cs) : base ≤ g := own_base h.1 g rfl

set_option maxRecDepth 100000 in
set_option maxHeartbeats 4000000 in
theorem cut_left2 (s : ByteArray) (k : Nat) (v : Value) (w : World) (hr : Row w w.heap.size 5 v (([⟨2, 0, 0, s⟩, ⟨1, (k : Int), 1, ⟨#[]⟩⟩] : List FV).map FV.list)) (ha : asciiB s = true) (hz : s.size ≤ 1000000000) (_h1 : k ≤ 99999999999) :
    Calls Tryz.prog 116 #[.string ⟨#[76, 69, 70, 84]⟩, v] w fun e w' => e = .returned (.agg #[.int .i64 2, .int .i64 0, .int .i64 0, .string (s.extract 0 (min k s.size)), .slice none 0 0]) ∧ Below w.heap.size w w' := by
  have HA : Hid (∀ x ∈ ([⟨2, 0, 0, s⟩] : List FV), asciiB x.text = true) := by simpa [Hid] using ha
  have HZ : Hid (∀ x ∈ ([⟨2, 0, 0, s⟩] : List FV), x.text.size ≤ 1000000000) := by simpa [Hid] using hz
  have HZS : Hid (s.size ≤ 1000000000) := hz
  have HR : Hid (∀ W, Below w.heap.size w W → Row W W.heap.size 5 v (([⟨2, 0, 0, s⟩, ⟨1, (k : Int), 1, ⟨#[]⟩⟩] : List FV).map FV.list)) := fun W hW => (hr.below hW).more hW.size
  obtain ⟨A, c, rfl, hc1, hc2, hc3⟩ := hr
  obtain ⟨g, o, rfl, hg, hcell⟩ := hc3 (by simp)
  have HT : Hid (∀ W, Below w.heap.size w W → Row W W.heap.size 5 (.slice (some ⟨g, o, none⟩) 1 c) (([⟨2, 0, 0, s⟩] : List FV).map FV.list)) := fun W hW => by
    have := Row.part (HR.out W hW) 0 1 c (by simp) (by simp at hc1; omega)
    simpa using this
  have HN : Hid (∀ W, Below w.heap.size w W → Row W W.heap.size 5 (.slice (some ⟨g, o + 5, none⟩) 1 (c - 1)) (([⟨1, (k : Int), 1, ⟨#[]⟩⟩] : List FV).map FV.list)) := fun W hW => by
    have := Row.part (HR.out W hW) 1 1 (c - 1) (by simp) (by simp at hc1; omega)
    simpa using this
  have hl : (([⟨2, 0, 0, s⟩, ⟨1, (k : Int), 1, ⟨#[]⟩⟩] : List FV).map FV.list).length = 2 := rfl
  rw [hl] at hc1 HR ⊢
  have hc0 : (2 : Int) ≤ (c : Int) := by omega
  have hc4 : ¬ c ≤ 1 := by omega
  have hc5 : c ≠ 1 := by omega
  have hc6 : ¬ 1 = c := by omega
  have hc7 : (1 : Int) ≠ (c : Int) := by omega
  have hu26 := Tryz.underlying34
  have pb0 : Below w.heap.size w (w.alloc (.cells #[.int .i64 0, .int .i64 0, .int .i64 0, .string ⟨#[]⟩, .slice none 0 0] 34)) := (Below.refl _ _).alloc (Nat.le_refl _) _
  clear hcell hc3 hc2 hl ha hz
  go_enter Tryz.func116, Tryz.ntmps116
  go_wp2_with (first
    | (go_at_call 205; refine (first_clean [⟨2, 0, 0, s⟩, ⟨1, (k : Int), 1, ⟨#[]⟩⟩] _ _ (HR.out _ pb0) (by simp) (by simp)).mono ?_; rintro e w1 ⟨rfl, hb1⟩; obtain ⟨c1, f1, z1, k1⟩ := box_cells (heap_new1 w _) hb1; have pb1 := below_next pb0 pb0.size hb1; have pb1' := pb1.alloc pb1.size (.cells #[.int .i64 0, .int .i64 0, .int .i64 0, .string ⟨#[]⟩, .slice none 0 0] 34))
    | (go_at_call 210; refine (texts_str [⟨2, 0, 0, s⟩] _ _ (HT.out _ pb1') (by simp) HA.out HZ.out (by simp)).mono ?_; rintro e w2 ⟨v2, rfl, hR2, hb2⟩; obtain ⟨c2, f2, z2, k2⟩ := box_later k1 hb2; have pb2 := below_next pb1' pb1'.size hb2; have pb2' := pb2.alloc pb2.size (.cells #[.int .i64 0, .int .i64 0, .int .i64 0, .string ⟨#[]⟩, .slice none 0 0] 34); clear c1 f1)
    | (go_at_call 195; refine (wholes_own [⟨1, (k : Int), 1, ⟨#[]⟩⟩] _ _ (HN.out _ pb2') (by simp) (by simp) (by simp)).mono ?_; rintro e w3 ⟨v3, b, rfl, hbb, hO3, hb3⟩; obtain ⟨c3, f3, z3, k3⟩ := box_later k2 hb3; obtain ⟨c8, f8, z8, k8⟩ := box_cells (heap_new1 w2 _) hb3; have pb3 := below_next pb2' pb2'.size hb3; clear c2 f2))
  obtain ⟨W3, hW3⟩ : ∃ W3 : World, W3 = ((((w3.setCell ⟨w2.heap.size, 0, none⟩ (.int .i64 0)).setCell ⟨w2.heap.size, 1, none⟩ (.int .i64 0)).setCell ⟨w2.heap.size, 2, none⟩ (.int .i64 0)).setCell ⟨w2.heap.size, 3, none⟩ (.string ⟨#[]⟩)).setCell ⟨w2.heap.size, 4, none⟩ (.slice none 0 0) := ⟨_, rfl⟩
  rw [← hW3]
  have hlt2 : w2.heap.size < b := by simp at hbb; omega
  have pb23 : Below w2.heap.size w2 W3 := by
    rw [hW3]
    exact (((((below_one hb3).setCell (p := ⟨w2.heap.size, 0, none⟩) (Nat.le_refl _) _).setCell (p := ⟨w2.heap.size, 1, none⟩) (Nat.le_refl _) _).setCell (p := ⟨w2.heap.size, 2, none⟩) (Nat.le_refl _) _).setCell (p := ⟨w2.heap.size, 3, none⟩) (Nat.le_refl _) _).setCell (p := ⟨w2.heap.size, 4, none⟩) (Nat.le_refl _) _
  have hOW := ((((hO3.setBelow (p := ⟨w2.heap.size, 0, none⟩) hlt2 (.int .i64 0)).setBelow (p := ⟨w2.heap.size, 1, none⟩) hlt2 (.int .i64 0)).setBelow (p := ⟨w2.heap.size, 2, none⟩) hlt2 (.int .i64 0)).setBelow (p := ⟨w2.heap.size, 3, none⟩) hlt2 (.string ⟨#[]⟩)).setBelow (p := ⟨w2.heap.size, 4, none⟩) hlt2 (.slice none 0 0)
  rw [← hW3] at hOW
  have kW := (pb23.block _ z2).trans k2
  have pbW := pb2.trans (pb23.mono pb2.size)
  obtain ⟨gs, os, cs, rfl, hcs, hgs, hs0⟩ := hR2.single
  have q0 := (pb23.cell (p := ⟨gs, os, none⟩) hgs).trans (hs0 0 _ rfl)
  have hcsi : (1 : Int) ≤ (cs : Int) := by omega
  obtain ⟨g3, o3, c3', rfl, hc3', hg3, _⟩ := hOW.row.at_ (k := 0) rfl
  have p0 : W3.cell? ⟨g3, o3 + 0, none⟩ = some (.int .i64 (k : Int)) := by
    obtain ⟨_, _, _, e, _, _, h⟩ := hOW.row.at_ (k := 0) rfl
    injection e with e
    injection e with e
    injection e with e1 e2
    subst e1 e2
    have := h 0 _ rfl
    simpa using this
  simp only [Nat.add_zero] at p0
  clear hb3 hO3 hOW hR2 hs0 hbb hlt2 c8 f8 z8 k8 c3 f3 z3 k3 hW3 pb23
  go_loop [12] (fun i => i = .int .i64 0 ∨ i = .int .i64 1) (fun i => 1 - (intOf i).toNat)
  case atStart => exact .inl rfl
  case round =>
    rcases hrel with rfl | rfl
    · go_wp2
      go_round
      case rel => exact .inr rfl
      case measure => simp [intOf]
    · by_cases hle : k ≤ s.size
      · have hli : (k : Int) ≤ (s.size : Int) := by omega
        have HE : Hid (min k s.size = k) := Nat.min_eq_left hle
        go_wp2
        go_quiet (fail)
        go_wp2_with ((go_at_call 15; refine (str_any _ _).mono ?_; rintro e w4 ⟨rfl, hb4⟩; obtain ⟨c4, f4, z4, k4⟩ := box_cells (W := W3.drewN nq) kW hb4; have pb4 := below_next pbW pbW.size (Below.ofDrewN hb4)))
        rw [HE.out]
        refine bodyPost_ret (v := .agg #[.int .i64 2, .int .i64 0, .int .i64 0, .string (s.extract 0 k), .slice none 0 0]) (by simp [results, Tryz.results116, go_sem, c4]) rfl ⟨rfl, ?_⟩
        clear c4 f4
        (repeat refine below_set0 ?_ _ _)
        exact pb4
      · have hli : ¬ (k : Int) ≤ (s.size : Int) := by omega
        have hli2 : (s.size : Int) ≤ (k : Int) := by omega
        have HE : Hid (min k s.size = s.size) := Nat.min_eq_right (by omega)
        clear hle
        go_wp2
        go_quiet (fail)
        go_wp2_with ((go_at_call 15; refine (str_any _ _).mono ?_; rintro e w4 ⟨rfl, hb4⟩; obtain ⟨c4, f4, z4, k4⟩ := box_cells (W := W3.drewN nq) kW hb4; have pb4 := below_next pbW pbW.size (Below.ofDrewN hb4)))
        rw [HE.out]
        refine bodyPost_ret (v := .agg #[.int .i64 2, .int .i64 0, .int .i64 0, .string (s.extract 0 s.size), .slice none 0 0]) (by simp [results, Tryz.results116, go_sem, c4]) rfl ⟨rfl, ?_⟩
        clear c4 f4
        (repeat refine below_set0 ?_ _ _)
        exact pb4

set_option maxRecDepth 100000 in
set_option maxHeartbeats 4000000 in
theorem cut_leftNeg (s : ByteArray) (n : Int) (v : Value) (w : World) (hr : Row w w.heap.size 5 v (([⟨2, 0, 0, s⟩, ⟨1, n, 1, ⟨#[]⟩⟩] : List FV).map FV.list)) (ha : asciiB s = true) (hz : s.size ≤ 1000000000) (h0 : n < 0) :
    Calls Tryz.prog 116 #[.string ⟨#[76, 69, 70, 84]⟩, v] w fun e w' => e = .returned (.agg #[.int .i64 4, .int .i64 0, .int .i64 0, .string errV, .slice none 0 0]) ∧ Below w.heap.size w w' := by
  have HA : Hid (∀ x ∈ ([⟨2, 0, 0, s⟩] : List FV), asciiB x.text = true) := by simpa [Hid] using ha
  have HZ : Hid (∀ x ∈ ([⟨2, 0, 0, s⟩] : List FV), x.text.size ≤ 1000000000) := by simpa [Hid] using hz
  have HZS : Hid (s.size ≤ 1000000000) := hz
  have HR : Hid (∀ W, Below w.heap.size w W → Row W W.heap.size 5 v (([⟨2, 0, 0, s⟩, ⟨1, n, 1, ⟨#[]⟩⟩] : List FV).map FV.list)) := fun W hW => (hr.below hW).more hW.size
  obtain ⟨A, c, rfl, hc1, hc2, hc3⟩ := hr
  obtain ⟨g, o, rfl, hg, hcell⟩ := hc3 (by simp)
  have HT : Hid (∀ W, Below w.heap.size w W → Row W W.heap.size 5 (.slice (some ⟨g, o, none⟩) 1 c) (([⟨2, 0, 0, s⟩] : List FV).map FV.list)) := fun W hW => by
    have := Row.part (HR.out W hW) 0 1 c (by simp) (by simp at hc1; omega)
    simpa using this
  have HN : Hid (∀ W, Below w.heap.size w W → Row W W.heap.size 5 (.slice (some ⟨g, o + 5, none⟩) 1 (c - 1)) (([⟨1, n, 1, ⟨#[]⟩⟩] : List FV).map FV.list)) := fun W hW => by
    have := Row.part (HR.out W hW) 1 1 (c - 1) (by simp) (by simp at hc1; omega)
    simpa using this
  have hl : (([⟨2, 0, 0, s⟩, ⟨1, n, 1, ⟨#[]⟩⟩] : List FV).map FV.list).length = 2 := rfl
  rw [hl] at hc1 HR ⊢
  have hc0 : (2 : Int) ≤ (c : Int) := by omega
  have hc4 : ¬ c ≤ 1 := by omega
  have hc5 : c ≠ 1 := by omega
  have hc6 : ¬ 1 = c := by omega
  have hc7 : (1 : Int) ≠ (c : Int) := by omega
  have hu26 := Tryz.underlying34
  have pb0 : Below w.heap.size w (w.alloc (.cells #[.int .i64 0, .int .i64 0, .int .i64 0, .string ⟨#[]⟩, .slice none 0 0] 34)) := (Below.refl _ _).alloc (Nat.le_refl _) _
  clear hcell hc3 hc2 hl ha hz
  go_enter Tryz.func116, Tryz.ntmps116
  go_wp2_with (first
    | (go_at_call 205; refine (first_clean [⟨2, 0, 0, s⟩, ⟨1, n, 1, ⟨#[]⟩⟩] _ _ (HR.out _ pb0) (by simp) (by simp)).mono ?_; rintro e w1 ⟨rfl, hb1⟩; obtain ⟨c1, f1, z1, k1⟩ := box_cells (heap_new1 w _) hb1; have pb1 := below_next pb0 pb0.size hb1; have pb1' := pb1.alloc pb1.size (.cells #[.int .i64 0, .int .i64 0, .int .i64 0, .string ⟨#[]⟩, .slice none 0 0] 34))
    | (go_at_call 210; refine (texts_str [⟨2, 0, 0, s⟩] _ _ (HT.out _ pb1') (by simp) HA.out HZ.out (by simp)).mono ?_; rintro e w2 ⟨v2, rfl, hR2, hb2⟩; obtain ⟨c2, f2, z2, k2⟩ := box_later k1 hb2; have pb2 := below_next pb1' pb1'.size hb2; have pb2' := pb2.alloc pb2.size (.cells #[.int .i64 0, .int .i64 0, .int .i64 0, .string ⟨#[]⟩, .slice none 0 0] 34); clear c1 f1)
    | (go_at_call 195; refine (wholes_own [⟨1, n, 1, ⟨#[]⟩⟩] _ _ (HN.out _ pb2') (by simp) (by simp) (by simp)).mono ?_; rintro e w3 ⟨v3, b, rfl, hbb, hO3, hb3⟩; obtain ⟨c3, f3, z3, k3⟩ := box_later k2 hb3; obtain ⟨c8, f8, z8, k8⟩ := box_cells (heap_new1 w2 _) hb3; have pb3 := below_next pb2' pb2'.size hb3; clear c2 f2))
  obtain ⟨W3, hW3⟩ : ∃ W3 : World, W3 = ((((w3.setCell ⟨w2.heap.size, 0, none⟩ (.int .i64 0)).setCell ⟨w2.heap.size, 1, none⟩ (.int .i64 0)).setCell ⟨w2.heap.size, 2, none⟩ (.int .i64 0)).setCell ⟨w2.heap.size, 3, none⟩ (.string ⟨#[]⟩)).setCell ⟨w2.heap.size, 4, none⟩ (.slice none 0 0) := ⟨_, rfl⟩
  rw [← hW3]
  have hlt2 : w2.heap.size < b := by simp at hbb; omega
  have pb23 : Below w2.heap.size w2 W3 := by
    rw [hW3]
    exact (((((below_one hb3).setCell (p := ⟨w2.heap.size, 0, none⟩) (Nat.le_refl _) _).setCell (p := ⟨w2.heap.size, 1, none⟩) (Nat.le_refl _) _).setCell (p := ⟨w2.heap.size, 2, none⟩) (Nat.le_refl _) _).setCell (p := ⟨w2.heap.size, 3, none⟩) (Nat.le_refl _) _).setCell (p := ⟨w2.heap.size, 4, none⟩) (Nat.le_refl _) _
  have hOW := ((((hO3.setBelow (p := ⟨w2.heap.size, 0, none⟩) hlt2 (.int .i64 0)).setBelow (p := ⟨w2.heap.size, 1, none⟩) hlt2 (.int .i64 0)).setBelow (p := ⟨w2.heap.size, 2, none⟩) hlt2 (.int .i64 0)).setBelow (p := ⟨w2.heap.size, 3, none⟩) hlt2 (.string ⟨#[]⟩)).setBelow (p := ⟨w2.heap.size, 4, none⟩) hlt2 (.slice none 0 0)
  rw [← hW3] at hOW
  have kW := (pb23.block _ z2).trans k2
  have pbW := pb2.trans (pb23.mono pb2.size)
  obtain ⟨gs, os, cs, rfl, hcs, hgs, hs0⟩ := hR2.single
  have q0 := (pb23.cell (p := ⟨gs, os, none⟩) hgs).trans (hs0 0 _ rfl)
  have hcsi : (1 : Int) ≤ (cs : Int) := by omega
  obtain ⟨g3, o3, c3', rfl, hc3', hg3, _⟩ := hOW.row.at_ (k := 0) rfl
  have p0 : W3.cell? ⟨g3, o3 + 0, none⟩ = some (.int .i64 n) := by
    obtain ⟨_, _, _, e, _, _, h⟩ := hOW.row.at_ (k := 0) rfl
    injection e with e
    injection e with e
    injection e with e1 e2
    subst e1 e2
    have := h 0 _ rfl
    simpa using this
  simp only [Nat.add_zero] at p0
  clear hb3 hO3 hOW hR2 hs0 hbb hlt2 c8 f8 z8 k8 c3 f3 z3 k3 hW3 pb23
  go_loop [12] (fun i => i = .int .i64 0) (fun i => 1 - (intOf i).toNat)
  case atStart => rfl
  case round =>
    subst hrel
    go_wp2_with ((go_at_call 40; refine (err_any _ _).mono ?_; rintro e w4 ⟨rfl, hb4⟩; obtain ⟨c4, f4, z4, k4⟩ := box_cells kW hb4; have pb4 := below_next pbW pbW.size hb4))
    refine bodyPost_ret (v := .agg #[.int .i64 4, .int .i64 0, .int .i64 0, .string errV, .slice none 0 0]) (by simp [results, Tryz.results116, go_sem, c4, errV]) rfl ⟨rfl, ?_⟩
    clear c4 f4
    (repeat refine below_set0 ?_ _ _)
    exact pb4

set_option maxRecDepth 100000 in
set_option maxHeartbeats 4000000 in
theorem cut_left1 (s : ByteArray) (v : Value) (w : World) (hr : Row w w.heap.size 5 v (([⟨2, 0, 0, s⟩] : List FV).map FV.list)) (ha : asciiB s = true) (hz : s.size ≤ 1000000000) :
    Calls Tryz.prog 116 #[.string ⟨#[76, 69, 70, 84]⟩, v] w fun e w' => e = .returned (.agg #[.int .i64 2, .int .i64 0, .int .i64 0, .string (s.extract 0 (min 1 s.size)), .slice none 0 0]) ∧ Below w.heap.size w w' := by
  have HA : Hid (∀ x ∈ ([⟨2, 0, 0, s⟩] : List FV), asciiB x.text = true) := by simpa [Hid] using ha
  have HZ : Hid (∀ x ∈ ([⟨2, 0, 0, s⟩] : List FV), x.text.size ≤ 1000000000) := by simpa [Hid] using hz
  have HZS : Hid (s.size ≤ 1000000000) := hz
  have HR : Hid (∀ W, Below w.heap.size w W → Row W W.heap.size 5 v (([⟨2, 0, 0, s⟩] : List FV).map FV.list)) := fun W hW => (hr.below hW).more hW.size
  obtain ⟨A, c, rfl, hc1, hc2, hc3⟩ := hr
  obtain ⟨g, o, rfl, hg, hcell⟩ := hc3 (by simp)
  have HT : Hid (∀ W, Below w.heap.size w W → Row W W.heap.size 5 (.slice (some ⟨g, o, none⟩) 1 c) (([⟨2, 0, 0, s⟩] : List FV).map FV.list)) := fun W hW => by
    have := Row.part (HR.out W hW) 0 1 c (by simp) (by simp at hc1; omega)
    simpa using this
  have HN : Hid (∀ (A : Option Addr) (c : Nat) (W : World), Row W W.heap.size 5 (.slice A 0 c) (([] : List FV).map FV.list)) := fun A c W => ⟨A, c, rfl, Nat.zero_le _, fun _ h => by simp at h, fun h => absurd h (by simp)⟩
  have hl : (([⟨2, 0, 0, s⟩] : List FV).map FV.list).length = 1 := rfl
  rw [hl] at hc1 HR ⊢
  have hc0 : (1 : Int) ≤ (c : Int) := by omega
  by_cases hcc : c = 1
  · subst hcc
    have hu26 := Tryz.underlying34
    have pb0 : Below w.heap.size w (w.alloc (.cells #[.int .i64 0, .int .i64 0, .int .i64 0, .string ⟨#[]⟩, .slice none 0 0] 34)) := (Below.refl _ _).alloc (Nat.le_refl _) _
    clear hcell hc3 hc2 hl ha hz
    go_enter Tryz.func116, Tryz.ntmps116
    go_wp2_with (first
      | (go_at_call 205; refine (first_clean [⟨2, 0, 0, s⟩] _ _ (HR.out _ pb0) (by simp) (by simp)).mono ?_; rintro e w1 ⟨rfl, hb1⟩; obtain ⟨c1, f1, z1, k1⟩ := box_cells (heap_new1 w _) hb1; have pb1 := below_next pb0 pb0.size hb1; have pb1' := pb1.alloc pb1.size (.cells #[.int .i64 0, .int .i64 0, .int .i64 0, .string ⟨#[]⟩, .slice none 0 0] 34))
      | (go_at_call 210; refine (texts_str [⟨2, 0, 0, s⟩] _ _ (HT.out _ pb1') (by simp) HA.out HZ.out (by simp)).mono ?_; rintro e w2 ⟨v2, rfl, hR2, hb2⟩; obtain ⟨c2, f2, z2, k2⟩ := box_later k1 hb2; have pb2 := below_next pb1' pb1'.size hb2; have pb2' := pb2.alloc pb2.size (.cells #[.int .i64 0, .int .i64 0, .int .i64 0, .string ⟨#[]⟩, .slice none 0 0] 34); clear c1 f1)
      | (go_at_call 195; refine (wholes_own [] _ _ (HN.out _ _ _) (by simp) (by simp) (by simp)).mono ?_; rintro e w3 ⟨v3, b, rfl, hbb, hO3, hb3⟩; obtain ⟨c3, f3, z3, k3⟩ := box_later k2 hb3; obtain ⟨c8, f8, z8, k8⟩ := box_cells (heap_new1 w2 _) hb3; have pb3 := below_next pb2' pb2'.size hb3; clear c2 f2))
    obtain ⟨W3, hW3⟩ : ∃ W3 : World, W3 = ((((w3.setCell ⟨w2.heap.size, 0, none⟩ (.int .i64 0)).setCell ⟨w2.heap.size, 1, none⟩ (.int .i64 0)).setCell ⟨w2.heap.size, 2, none⟩ (.int .i64 0)).setCell ⟨w2.heap.size, 3, none⟩ (.string ⟨#[]⟩)).setCell ⟨w2.heap.size, 4, none⟩ (.slice none 0 0) := ⟨_, rfl⟩
    rw [← hW3]
    have hlt2 : w2.heap.size < b := by simp at hbb; omega
    have pb23 : Below w2.heap.size w2 W3 := by
      rw [hW3]
      exact (((((below_one hb3).setCell (p := ⟨w2.heap.size, 0, none⟩) (Nat.le_refl _) _).setCell (p := ⟨w2.heap.size, 1, none⟩) (Nat.le_refl _) _).setCell (p := ⟨w2.heap.size, 2, none⟩) (Nat.le_refl _) _).setCell (p := ⟨w2.heap.size, 3, none⟩) (Nat.le_refl _) _).setCell (p := ⟨w2.heap.size, 4, none⟩) (Nat.le_refl _) _
    have hOW := ((((hO3.setBelow (p := ⟨w2.heap.size, 0, none⟩) hlt2 (.int .i64 0)).setBelow (p := ⟨w2.heap.size, 1, none⟩) hlt2 (.int .i64 0)).setBelow (p := ⟨w2.heap.size, 2, none⟩) hlt2 (.int .i64 0)).setBelow (p := ⟨w2.heap.size, 3, none⟩) hlt2 (.string ⟨#[]⟩)).setBelow (p := ⟨w2.heap.size, 4, none⟩) hlt2 (.slice none 0 0)
    rw [← hW3] at hOW
    have kW := (pb23.block _ z2).trans k2
    have pbW := pb2.trans (pb23.mono pb2.size)
    obtain ⟨gs, os, cs, rfl, hcs, hgs, hs0⟩ := hR2.single
    have q0 := (pb23.cell (p := ⟨gs, os, none⟩) hgs).trans (hs0 0 _ rfl)
    have hcsi : (1 : Int) ≤ (cs : Int) := by omega
    obtain ⟨A3, c3', rfl, _⟩ := hOW.len
    simp only [List.length_nil, List.map_nil] at *
    clear hb3 hO3 hOW hR2 hs0 hbb hlt2 c8 f8 z8 k8 c3 f3 z3 k3 hW3 pb23
    go_loop [12] (fun i => i = .int .i64 0) (fun i => 1 - (intOf i).toNat)
    case atStart => rfl
    case round =>
      subst hrel
      by_cases hle : 1 ≤ s.size
      · have hli : (1 : Int) ≤ (s.size : Int) := by omega
        have HE : Hid (s.extract 0 (min 1 s.size) = s.extract 0 1) := by rw [Hid]; congr 1 <;> omega
        skip
        go_wp2
        go_quiet (fail)
        go_wp2_with ((go_at_call 15; refine (str_any _ _).mono ?_; rintro e w4 ⟨rfl, hb4⟩; obtain ⟨c4, f4, z4, k4⟩ := box_cells (W := W3.drewN nq) kW hb4; have pb4 := below_next pbW pbW.size (Below.ofDrewN hb4)))
        rw [HE.out]
        refine bodyPost_ret (v := .agg #[.int .i64 2, .int .i64 0, .int .i64 0, .string (s.extract 0 1), .slice none 0 0]) (by simp [results, Tryz.results116, go_sem, c4]) rfl ⟨rfl, ?_⟩
        clear c4 f4
        (repeat refine below_set0 ?_ _ _)
        exact pb4
      · have hli : ¬ (1 : Int) ≤ (s.size : Int) := by omega
        have hli2 : (s.size : Int) ≤ 1 := by omega
        have hli3 : s.size = 0 := by omega
        have HE : Hid (s.extract 0 (min 1 s.size) = s.extract 0 0) := by rw [Hid, hli3]; rfl
        clear hle
        go_wp2
        go_quiet (fail)
        go_wp2_with ((go_at_call 15; refine (str_any _ _).mono ?_; rintro e w4 ⟨rfl, hb4⟩; obtain ⟨c4, f4, z4, k4⟩ := box_cells (W := W3.drewN nq) kW hb4; have pb4 := below_next pbW pbW.size (Below.ofDrewN hb4)))
        rw [HE.out]
        refine bodyPost_ret (v := .agg #[.int .i64 2, .int .i64 0, .int .i64 0, .string (s.extract 0 0), .slice none 0 0]) (by simp [results, Tryz.results116, go_sem, c4]) rfl ⟨rfl, ?_⟩
        clear c4 f4
        (repeat refine below_set0 ?_ _ _)
        exact pb4
  · have hc4 : ¬ c ≤ 1 := by omega
    have hc6 : ¬ 1 = c := by omega
    have hc7 : (1 : Int) ≠ (c : Int) := by omega
    have hu26 := Tryz.underlying34
    have pb0 : Below w.heap.size w (w.alloc (.cells #[.int .i64 0, .int .i64 0, .int .i64 0, .string ⟨#[]⟩, .slice none 0 0] 34)) := (Below.refl _ _).alloc (Nat.le_refl _) _
    clear hcell hc3 hc2 hl ha hz
    go_enter Tryz.func116, Tryz.ntmps116
    go_wp2_with (first
      | (go_at_call 205; refine (first_clean [⟨2, 0, 0, s⟩] _ _ (HR.out _ pb0) (by simp) (by simp)).mono ?_; rintro e w1 ⟨rfl, hb1⟩; obtain ⟨c1, f1, z1, k1⟩ := box_cells (heap_new1 w _) hb1; have pb1 := below_next pb0 pb0.size hb1; have pb1' := pb1.alloc pb1.size (.cells #[.int .i64 0, .int .i64 0, .int .i64 0, .string ⟨#[]⟩, .slice none 0 0] 34))
      | (go_at_call 210; refine (texts_str [⟨2, 0, 0, s⟩] _ _ (HT.out _ pb1') (by simp) HA.out HZ.out (by simp)).mono ?_; rintro e w2 ⟨v2, rfl, hR2, hb2⟩; obtain ⟨c2, f2, z2, k2⟩ := box_later k1 hb2; have pb2 := below_next pb1' pb1'.size hb2; have pb2' := pb2.alloc pb2.size (.cells #[.int .i64 0, .int .i64 0, .int .i64 0, .string ⟨#[]⟩, .slice none 0 0] 34); clear c1 f1)
      | (go_at_call 195; refine (wholes_own [] _ _ (HN.out _ _ _) (by simp) (by simp) (by simp)).mono ?_; rintro e w3 ⟨v3, b, rfl, hbb, hO3, hb3⟩; obtain ⟨c3, f3, z3, k3⟩ := box_later k2 hb3; obtain ⟨c8, f8, z8, k8⟩ := box_cells (heap_new1 w2 _) hb3; have pb3 := below_next pb2' pb2'.size hb3; clear c2 f2))
    obtain ⟨W3, hW3⟩ : ∃ W3 : World, W3 = ((((w3.setCell ⟨w2.heap.size, 0, none⟩ (.int .i64 0)).setCell ⟨w2.heap.size, 1, none⟩ (.int .i64 0)).setCell ⟨w2.heap.size, 2, none⟩ (.int .i64 0)).setCell ⟨w2.heap.size, 3, none⟩ (.string ⟨#[]⟩)).setCell ⟨w2.heap.size, 4, none⟩ (.slice none 0 0) := ⟨_, rfl⟩
    rw [← hW3]
    have hlt2 : w2.heap.size < b := by simp at hbb; omega
    have pb23 : Below w2.heap.size w2 W3 := by
      rw [hW3]
      exact (((((below_one hb3).setCell (p := ⟨w2.heap.size, 0, none⟩) (Nat.le_refl _) _).setCell (p := ⟨w2.heap.size, 1, none⟩) (Nat.le_refl _) _).setCell (p := ⟨w2.heap.size, 2, none⟩) (Nat.le_refl _) _).setCell (p := ⟨w2.heap.size, 3, none⟩) (Nat.le_refl _) _).setCell (p := ⟨w2.heap.size, 4, none⟩) (Nat.le_refl _) _
    have hOW := ((((hO3.setBelow (p := ⟨w2.heap.size, 0, none⟩) hlt2 (.int .i64 0)).setBelow (p := ⟨w2.heap.size, 1, none⟩) hlt2 (.int .i64 0)).setBelow (p := ⟨w2.heap.size, 2, none⟩) hlt2 (.int .i64 0)).setBelow (p := ⟨w2.heap.size, 3, none⟩) hlt2 (.string ⟨#[]⟩)).setBelow (p := ⟨w2.heap.size, 4, none⟩) hlt2 (.slice none 0 0)
    rw [← hW3] at hOW
    have kW := (pb23.block _ z2).trans k2
    have pbW := pb2.trans (pb23.mono pb2.size)
    obtain ⟨gs, os, cs, rfl, hcs, hgs, hs0⟩ := hR2.single
    have q0 := (pb23.cell (p := ⟨gs, os, none⟩) hgs).trans (hs0 0 _ rfl)
    have hcsi : (1 : Int) ≤ (cs : Int) := by omega
    obtain ⟨A3, c3', rfl, _⟩ := hOW.len
    simp only [List.length_nil, List.map_nil] at *
    clear hb3 hO3 hOW hR2 hs0 hbb hlt2 c8 f8 z8 k8 c3 f3 z3 k3 hW3 pb23
    go_loop [12] (fun i => i = .int .i64 0) (fun i => 1 - (intOf i).toNat)
    case atStart => rfl
    case round =>
      subst hrel
      by_cases hle : 1 ≤ s.size
      · have hli : (1 : Int) ≤ (s.size : Int) := by omega
        have HE : Hid (s.extract 0 (min 1 s.size) = s.extract 0 1) := by rw [Hid]; congr 1 <;> omega
        skip
        go_wp2
        go_quiet (fail)
        go_wp2_with ((go_at_call 15; refine (str_any _ _).mono ?_; rintro e w4 ⟨rfl, hb4⟩; obtain ⟨c4, f4, z4, k4⟩ := box_cells (W := W3.drewN nq) kW hb4; have pb4 := below_next pbW pbW.size (Below.ofDrewN hb4)))
        rw [HE.out]
        refine bodyPost_ret (v := .agg #[.int .i64 2, .int .i64 0, .int .i64 0, .string (s.extract 0 1), .slice none 0 0]) (by simp [results, Tryz.results116, go_sem, c4]) rfl ⟨rfl, ?_⟩
        clear c4 f4
        (repeat refine below_set0 ?_ _ _)
        exact pb4
      · have hli : ¬ (1 : Int) ≤ (s.size : Int) := by omega
        have hli2 : (s.size : Int) ≤ 1 := by omega
        have hli3 : s.size = 0 := by omega
        have HE : Hid (s.extract 0 (min 1 s.size) = s.extract 0 0) := by rw [Hid, hli3]; rfl
        clear hle
        go_wp2
        go_quiet (fail)
        go_wp2_with ((go_at_call 15; refine (str_any _ _).mono ?_; rintro e w4 ⟨rfl, hb4⟩; obtain ⟨c4, f4, z4, k4⟩ := box_cells (W := W3.drewN nq) kW hb4; have pb4 := below_next pbW pbW.size (Below.ofDrewN hb4)))
        rw [HE.out]
        refine bodyPost_ret (v := .agg #[.int .i64 2, .int .i64 0, .int .i64 0, .string (s.extract 0 0), .slice none 0 0]) (by simp [results, Tryz.results116, go_sem, c4]) rfl ⟨rfl, ?_⟩
        clear c4 f4
        (repeat refine below_set0 ?_ _ _)
        exact pb4

set_option maxRecDepth 100000 in
set_option maxHeartbeats 4000000 in
theorem cut_right1 (s : ByteArray) (v : Value) (w : World) (hr : Row w w.heap.size 5 v (([⟨2, 0, 0, s⟩] : List FV).map FV.list)) (ha : asciiB s = true) (hz : s.size ≤ 1000000000) :
    Calls Tryz.prog 116 #[.string ⟨#[82, 73, 71, 72, 84]⟩, v] w fun e w' => e = .returned (.agg #[.int .i64 2, .int .i64 0, .int .i64 0, .string (s.extract (s.size - min 1 s.size) s.size), .slice none 0 0]) ∧ Below w.heap.size w w' := by
  have HA : Hid (∀ x ∈ ([⟨2, 0, 0, s⟩] : List FV), asciiB x.text = true) := by simpa [Hid] using ha
  have HZ : Hid (∀ x ∈ ([⟨2, 0, 0, s⟩] : List FV), x.text.size ≤ 1000000000) := by simpa [Hid] using hz
  have HZS : Hid (s.size ≤ 1000000000) := hz
  have HR : Hid (∀ W, Below w.heap.size w W → Row W W.heap.size 5 v (([⟨2, 0, 0, s⟩] : List FV).map FV.list)) := fun W hW => (hr.below hW).more hW.size
  obtain ⟨A, c, rfl, hc1, hc2, hc3⟩ := hr
  obtain ⟨g, o, rfl, hg, hcell⟩ := hc3 (by simp)
  have HT : Hid (∀ W, Below w.heap.size w W → Row W W.heap.size 5 (.slice (some ⟨g, o, none⟩) 1 c) (([⟨2, 0, 0, s⟩] : List FV).map FV.list)) := fun W hW => by
    have := Row.part (HR.out W hW) 0 1 c (by simp) (by simp at hc1; omega)
    simpa using this
  have HN : Hid (∀ (A : Option Addr) (c : Nat) (W : World), Row W W.heap.size 5 (.slice A 0 c) (([] : List FV).map FV.list)) := fun A c W => ⟨A, c, rfl, Nat.zero_le _, fun _ h => by simp at h, fun h => absurd h (by simp)⟩
  have hl : (([⟨2, 0, 0, s⟩] : List FV).map FV.list).length = 1 := rfl
  rw [hl] at hc1 HR ⊢
  have hc0 : (1 : Int) ≤ (c : Int) := by omega
  by_cases hcc : c = 1
  · subst hcc
    have hu26 := Tryz.underlying34
    have pb0 : Below w.heap.size w (w.alloc (.cells #[.int .i64 0, .int .i64 0, .int .i64 0, .string ⟨#[]⟩, .slice none 0 0] 34)) := (Below.refl _ _).alloc (Nat.le_refl _) _
    clear hcell hc3 hc2 hl ha hz
    go_enter Tryz.func116, Tryz.ntmps116
    go_wp2_with (first
      | (go_at_call 205; refine (first_clean [⟨2, 0, 0, s⟩] _ _ (HR.out _ pb0) (by simp) (by simp)).mono ?_; rintro e w1 ⟨rfl, hb1⟩; obtain ⟨c1, f1, z1, k1⟩ := box_cells (heap_new1 w _) hb1; have pb1 := below_next pb0 pb0.size hb1; have pb1' := pb1.alloc pb1.size (.cells #[.int .i64 0, .int .i64 0, .int .i64 0, .string ⟨#[]⟩, .slice none 0 0] 34))
      | (go_at_call 210; refine (texts_str [⟨2, 0, 0, s⟩] _ _ (HT.out _ pb1') (by simp) HA.out HZ.out (by simp)).mono ?_; rintro e w2 ⟨v2, rfl, hR2, hb2⟩; obtain ⟨c2, f2, z2, k2⟩ := box_later k1 hb2; have pb2 := below_next pb1' pb1'.size hb2; have pb2' := pb2.alloc pb2.size (.cells #[.int .i64 0, .int .i64 0, .int .i64 0, .string ⟨#[]⟩, .slice none 0 0] 34); clear c1 f1)
      | (go_at_call 195; refine (wholes_own [] _ _ (HN.out _ _ _) (by simp) (by simp) (by simp)).mono ?_; rintro e w3 ⟨v3, b, rfl, hbb, hO3, hb3⟩; obtain ⟨c3, f3, z3, k3⟩ := box_later k2 hb3; obtain ⟨c8, f8, z8, k8⟩ := box_cells (heap_new1 w2 _) hb3; have pb3 := below_next pb2' pb2'.size hb3; clear c2 f2))
    obtain ⟨W3, hW3⟩ : ∃ W3 : World, W3 = ((((w3.setCell ⟨w2.heap.size, 0, none⟩ (.int .i64 0)).setCell ⟨w2.heap.size, 1, none⟩ (.int .i64 0)).setCell ⟨w2.heap.size, 2, none⟩ (.int .i64 0)).setCell ⟨w2.heap.size, 3, none⟩ (.string ⟨#[]⟩)).setCell ⟨w2.heap.size, 4, none⟩ (.slice none 0 0) := ⟨_, rfl⟩
    rw [← hW3]
    have hlt2 : w2.heap.size < b := by simp at hbb; omega
    have pb23 : Below w2.heap.size w2 W3 := by
      rw [hW3]
      exact (((((below_one hb3).setCell (p := ⟨w2.heap.size, 0, none⟩) (Nat.le_refl _) _).setCell (p := ⟨w2.heap.size, 1, none⟩) (Nat.le_refl _) _).setCell (p := ⟨w2.heap.size, 2, none⟩) (Nat.le_refl _) _).setCell (p := ⟨w2.heap.size, 3, none⟩) (Nat.le_refl _) _).setCell (p := ⟨w2.heap.size, 4, none⟩) (Nat.le_refl _) _
    have hOW := ((((hO3.setBelow (p := ⟨w2.heap.size, 0, none⟩) hlt2 (.int .i64 0)).setBelow (p := ⟨w2.heap.size, 1, none⟩) hlt2 (.int .i64 0)).setBelow (p := ⟨w2.heap.size, 2, none⟩) hlt2 (.int .i64 0)).setBelow (p := ⟨w2.heap.size, 3, none⟩) hlt2 (.string ⟨#[]⟩)).setBelow (p := ⟨w2.heap.size, 4, none⟩) hlt2 (.slice none 0 0)
    rw [← hW3] at hOW
    have kW := (pb23.block _ z2).trans k2
    have pbW := pb2.trans (pb23.mono pb2.size)
    obtain ⟨gs, os, cs, rfl, hcs, hgs, hs0⟩ := hR2.single
    have q0 := (pb23.cell (p := ⟨gs, os, none⟩) hgs).trans (hs0 0 _ rfl)
    have hcsi : (1 : Int) ≤ (cs : Int) := by omega
    obtain ⟨A3, c3', rfl, _⟩ := hOW.len
    simp only [List.length_nil, List.map_nil] at *
    clear hb3 hO3 hOW hR2 hs0 hbb hlt2 c8 f8 z8 k8 c3 f3 z3 k3 hW3 pb23
    go_loop [12] (fun i => i = .int .i64 0) (fun i => 1 - (intOf i).toNat)
    case atStart => rfl
    case round =>
      subst hrel
      by_cases hle : 1 ≤ s.size
      · have hli : (1 : Int) ≤ (s.size : Int) := by omega
        obtain ⟨m, hm⟩ : ∃ m, m = s.size - 1 := ⟨_, rfl⟩
        have hw : wrap64 ((s.size : Int) - 1) = (m : Int) := by have := HZS.out; unfold wrap64; omega
        have m1 : (m : Int) ≤ (s.size : Int) := by omega
        have m0 : (0 : Int) ≤ (m : Int) := by omega
        have HE : Hid (s.extract (s.size - min 1 s.size) s.size = s.extract m s.size) := by rw [Hid]; congr 1 <;> omega
        clear hm
        go_wp2
        go_quiet (fail)
        go_wp2_with ((go_at_call 15; refine (str_any _ _).mono ?_; rintro e w4 ⟨rfl, hb4⟩; obtain ⟨c4, f4, z4, k4⟩ := box_cells (W := W3.drewN nq) kW hb4; have pb4 := below_next pbW pbW.size (Below.ofDrewN hb4)))
        rw [HE.out]
        refine bodyPost_ret (v := .agg #[.int .i64 2, .int .i64 0, .int .i64 0, .string (s.extract m s.size), .slice none 0 0]) (by simp [results, Tryz.results116, go_sem, c4]) rfl ⟨rfl, ?_⟩
        clear c4 f4
        (repeat refine below_set0 ?_ _ _)
        exact pb4
      · have hli : ¬ (1 : Int) ≤ (s.size : Int) := by omega
        have hli2 : (s.size : Int) ≤ 1 := by omega
        have hli3 : s.size = 0 := by omega
        have HE : Hid (s.extract (s.size - min 1 s.size) s.size = s.extract 0 0) := by rw [Hid, hli3]; rfl
        clear hle
        go_wp2
        go_quiet (fail)
        go_wp2_with ((go_at_call 15; refine (str_any _ _).mono ?_; rintro e w4 ⟨rfl, hb4⟩; obtain ⟨c4, f4, z4, k4⟩ := box_cells (W := W3.drewN nq) kW hb4; have pb4 := below_next pbW pbW.size (Below.ofDrewN hb4)))
        rw [HE.out]
        refine bodyPost_ret (v := .agg #[.int .i64 2, .int .i64 0, .int .i64 0, .string (s.extract 0 0), .slice none 0 0]) (by simp [results, Tryz.results116, go_sem, c4]) rfl ⟨rfl, ?_⟩
        clear c4 f4
        (repeat refine below_set0 ?_ _ _)
        exact pb4
  · have hc4 : ¬ c ≤ 1 := by omega
    have hc6 : ¬ 1 = c := by omega
    have hc7 : (1 : Int) ≠ (c : Int) := by omega
    have hu26 := Tryz.underlying34
    have pb0 : Below w.heap.size w (w.alloc (.cells #[.int .i64 0, .int .i64 0, .int .i64 0, .string ⟨#[]⟩, .slice none 0 0] 34)) := (Below.refl _ _).alloc (Nat.le_refl _) _
    clear hcell hc3 hc2 hl ha hz
    go_enter Tryz.func116, Tryz.ntmps116
    go_wp2_with (first
      | (go_at_call 205; refine (first_clean [⟨2, 0, 0, s⟩] _ _ (HR.out _ pb0) (by simp) (by simp)).mono ?_; rintro e w1 ⟨rfl, hb1⟩; obtain ⟨c1, f1, z1, k1⟩ := box_cells (heap_new1 w _) hb1; have pb1 := below_next pb0 pb0.size hb1; have pb1' := pb1.alloc pb1.size (.cells #[.int .i64 0, .int .i64 0, .int .i64 0, .string ⟨#[]⟩, .slice none 0 0] 34))
      | (go_at_call 210; refine (texts_str [⟨2, 0, 0, s⟩] _ _ (HT.out _ pb1') (by simp) HA.out HZ.out (by simp)).mono ?_; rintro e w2 ⟨v2, rfl, hR2, hb2⟩; obtain ⟨c2, f2, z2, k2⟩ := box_later k1 hb2; have pb2 := below_next pb1' pb1'.size hb2; have pb2' := pb2.alloc pb2.size (.cells #[.int .i64 0, .int .i64 0, .int .i64 0, .string ⟨#[]⟩, .slice none 0 0] 34); clear c1 f1)
      | (go_at_call 195; refine (wholes_own [] _ _ (HN.out _ _ _) (by simp) (by simp) (by simp)).mono ?_; rintro e w3 ⟨v3, b, rfl, hbb, hO3, hb3⟩; obtain ⟨c3, f3, z3, k3⟩ := box_later k2 hb3; obtain ⟨c8, f8, z8, k8⟩ := box_cells (heap_new1 w2 _) hb3; have pb3 := below_next pb2' pb2'.size hb3; clear c2 f2))
    obtain ⟨W3, hW3⟩ : ∃ W3 : World, W3 = ((((w3.setCell ⟨w2.heap.size, 0, none⟩ (.int .i64 0)).setCell ⟨w2.heap.size, 1, none⟩ (.int .i64 0)).setCell ⟨w2.heap.size, 2, none⟩ (.int .i64 0)).setCell ⟨w2.heap.size, 3, none⟩ (.string ⟨#[]⟩)).setCell ⟨w2.heap.size, 4, none⟩ (.slice none 0 0) := ⟨_, rfl⟩
    rw [← hW3]
    have hlt2 : w2.heap.size < b := by simp at hbb; omega
    have pb23 : Below w2.heap.size w2 W3 := by
      rw [hW3]
      exact (((((below_one hb3).setCell (p := ⟨w2.heap.size, 0, none⟩) (Nat.le_refl _) _).setCell (p := ⟨w2.heap.size, 1, none⟩) (Nat.le_refl _) _).setCell (p := ⟨w2.heap.size, 2, none⟩) (Nat.le_refl _) _).setCell (p := ⟨w2.heap.size, 3, none⟩) (Nat.le_refl _) _).setCell (p := ⟨w2.heap.size, 4, none⟩) (Nat.le_refl _) _
    have hOW := ((((hO3.setBelow (p := ⟨w2.heap.size, 0, none⟩) hlt2 (.int .i64 0)).setBelow (p := ⟨w2.heap.size, 1, none⟩) hlt2 (.int .i64 0)).setBelow (p := ⟨w2.heap.size, 2, none⟩) hlt2 (.int .i64 0)).setBelow (p := ⟨w2.heap.size, 3, none⟩) hlt2 (.string ⟨#[]⟩)).setBelow (p := ⟨w2.heap.size, 4, none⟩) hlt2 (.slice none 0 0)
    rw [← hW3] at hOW
    have kW := (pb23.block _ z2).trans k2
    have pbW := pb2.trans (pb23.mono pb2.size)
    obtain ⟨gs, os, cs, rfl, hcs, hgs, hs0⟩ := hR2.single
    have q0 := (pb23.cell (p := ⟨gs, os, none⟩) hgs).trans (hs0 0 _ rfl)
    have hcsi : (1 : Int) ≤ (cs : Int) := by omega
    obtain ⟨A3, c3', rfl, _⟩ := hOW.len
    simp only [List.length_nil, List.map_nil] at *
    clear hb3 hO3 hOW hR2 hs0 hbb hlt2 c8 f8 z8 k8 c3 f3 z3 k3 hW3 pb23
    go_loop [12] (fun i => i = .int .i64 0) (fun i => 1 - (intOf i).toNat)
    case atStart => rfl
    case round =>
      subst hrel
      by_cases hle : 1 ≤ s.size
      · have hli : (1 : Int) ≤ (s.size : Int) := by omega
        obtain ⟨m, hm⟩ : ∃ m, m = s.size - 1 := ⟨_, rfl⟩
        have hw : wrap64 ((s.size : Int) - 1) = (m : Int) := by have := HZS.out; unfold wrap64; omega
        have m1 : (m : Int) ≤ (s.size : Int) := by omega
        have m0 : (0 : Int) ≤ (m : Int) := by omega
        have HE : Hid (s.extract (s.size - min 1 s.size) s.size = s.extract m s.size) := by rw [Hid]; congr 1 <;> omega
        clear hm
        go_wp2
        go_quiet (fail)
        go_wp2_with ((go_at_call 15; refine (str_any _ _).mono ?_; rintro e w4 ⟨rfl, hb4⟩; obtain ⟨c4, f4, z4, k4⟩ := box_cells (W := W3.drewN nq) kW hb4; have pb4 := below_next pbW pbW.size (Below.ofDrewN hb4)))
        rw [HE.out]
        refine bodyPost_ret (v := .agg #[.int .i64 2, .int .i64 0, .int .i64 0, .string (s.extract m s.size), .slice none 0 0]) (by simp [results, Tryz.results116, go_sem, c4]) rfl ⟨rfl, ?_⟩
        clear c4 f4
        (repeat refine below_set0 ?_ _ _)
        exact pb4
      · have hli : ¬ (1 : Int) ≤ (s.size : Int) := by omega
        have hli2 : (s.size : Int) ≤ 1 := by omega
        have hli3 : s.size = 0 := by omega
        have HE : Hid (s.extract (s.size - min 1 s.size) s.size = s.extract 0 0) := by rw [Hid, hli3]; rfl
        clear hle
        go_wp2
        go_quiet (fail)
        go_wp2_with ((go_at_call 15; refine (str_any _ _).mono ?_; rintro e w4 ⟨rfl, hb4⟩; obtain ⟨c4, f4, z4, k4⟩ := box_cells (W := W3.drewN nq) kW hb4; have pb4 := below_next pbW pbW.size (Below.ofDrewN hb4)))
        rw [HE.out]
        refine bodyPost_ret (v := .agg #[.int .i64 2, .int .i64 0, .int .i64 0, .string (s.extract 0 0), .slice none 0 0]) (by simp [results, Tryz.results116, go_sem, c4]) rfl ⟨rfl, ?_⟩
        clear c4 f4
        (repeat refine below_set0 ?_ _ _)
        exact pb4

end Go.Proofs.YtopomonencffkaaGreatDoor

