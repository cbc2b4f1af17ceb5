/-
'First', 'numbers', 'wholes', 'strict', 'between' of the reference, at plain numbers; 'Fits' by its three parts.
-/
import Derived.Test.YtkglbccdiofnkaaGreatDoorEvery
import Derived.Test.YtkglbccdiofnkaaGreatDoorOut
import Derived.Below
import Derived.Deep.QuietTactic
import Derived.BigQuiet
namespace Go.Proofs.YtkglbccdiofnkaaGreatDoor
open Go.RowKit

theorem Own.setBelow {w : World} {base : Nat} {e : TypeId} {sz : Nat} {v : Value} {cs : List (List Value)} (h : Own w base e sz v cs) {p : Addr} (hp : p.block < base) (u : Value) : Own (w.setCell p u) base e sz v cs := ⟨ownsRow_setCell_below h.1 hp u, h.2⟩

theorem Below.ofDrewN {w w' : World} {B n : Nat} (h : Below B (w.drewN n) w') : Below B w w' := ⟨h.os, h.tape, h.output, h.size, h.block⟩

set_option maxRecDepth 100000 in
set_option maxHeartbeats 1000000 in
/-- Neither doubt nor error among these. -/
theorem first_clean (vs : List FV) (v : Value) (w : World) (hr : Row w w.heap.size 5 v (vs.map FV.list)) (hk : ∀ x ∈ vs, x.kind ≠ 4 ∧ x.kind ≠ 5 ∧ x.kind ≠ 6) (hn : vs.length ≤ 1000000) :
    Calls Tryz.prog 230 #[v] w fun e w' => e = .returned (.tuple #[.agg #[.int .i64 0, .int .i64 0, .int .i64 0, .string ⟨#[]⟩, .slice none 0 0], .bool false]) ∧ Below w.heap.size w w' := by
  have HK := Lib.hid hk
  have HK5 : Hid (∀ x ∈ vs, x.kind ≠ 5) := fun x hx => (hk x hx).2.1
  obtain ⟨w0, hw0⟩ : ∃ w0 : World, w0 = w.alloc (.cells #[.int .i64 0, .int .i64 0, .int .i64 0, .string ⟨#[]⟩, .slice none 0 0] 31) := ⟨_, rfl⟩
  have hb0 : Below w.heap.size w w0 := by rw [hw0]; exact (Below.refl _ _).alloc (Nat.le_refl _) _
  have k0 : w0.heap[w.heap.size]? = some (.cells #[.int .i64 0, .int .i64 0, .int .i64 0, .string ⟨#[]⟩, .slice none 0 0] 31) := by rw [hw0]; exact heap_new1 _ _
  have HR := Lib.hid ((hr.below hb0).more hb0.size)
  have HW0 := Lib.hid hw0.symm
  clear hr hk hw0
  have hu26 := Tryz.underlying31
  go_enter Tryz.func230, Tryz.ntmps230
  go_wp2_with (go_at_call 40; rw [HW0.out]; refine (flat_flat vs v _ HR.out HK5.out hn).mono ?_; rintro e w2 ⟨v2, rfl, hR2, hb3⟩; obtain ⟨c0, f0, z0, k2⟩ := box_cells k0 hb3)
  obtain ⟨A2, c2, rfl, hc1, hc2, hc3⟩ := hR2
  rw [List.length_map] at hc1 hc3 ⊢
  have HC := Lib.hid hc3
  clear hc2 hc3
  go_loop [4] (fun i => ∃ k : Nat, k ≤ vs.length ∧ i = .int .i64 k) (fun i => vs.length - (intOf i).toNat)
  case atStart => exact ⟨0, Nat.zero_le _, rfl⟩
  case round =>
    obtain ⟨k, hk1, rfl⟩ := hrel
    by_cases hlt : k < vs.length
    · obtain ⟨g, o, rfl, hg, hcell⟩ := HC.out (by omega)
      obtain ⟨x, hxk⟩ : ∃ x, vs[k]? = some x := ⟨_, List.getElem?_eq_getElem hlt⟩
      have q0 := hcell k (FV.list x) (by rw [List.getElem?_map, hxk]; rfl) 0 _ rfl
      simp only [Nat.add_zero] at q0
      have t6 : (x.kind == 6) = false := by simpa using (HK.out x (List.mem_of_getElem? hxk)).2.2
      have HL : Hid (k < vs.length) := hlt
      clear hcell hxk
      go_wp2
      have hlt := HL.out
      go_round
      case rel => exact ⟨k + 1, by omega, by go_num⟩
      case measure => simp [intOf]; omega
    · obtain rfl : k = vs.length := by omega
      go_wp2_with fail
      go_loop [5] (fun i => ∃ k : Nat, k ≤ vs.length ∧ i = .int .i64 k) (fun i => vs.length - (intOf i).toNat)
      case atStart => exact ⟨0, Nat.zero_le _, rfl⟩
      case round =>
        obtain ⟨k, hk1, rfl⟩ := hrel
        by_cases hlt : k < vs.length
        · obtain ⟨g, o, rfl, hg, hcell⟩ := HC.out (by omega)
          obtain ⟨x, hxk⟩ : ∃ x, vs[k]? = some x := ⟨_, List.getElem?_eq_getElem hlt⟩
          have q0 := hcell k (FV.list x) (by rw [List.getElem?_map, hxk]; rfl) 0 _ rfl
          simp only [Nat.add_zero] at q0
          have t4 : (x.kind == 4) = false := by simpa using (HK.out x (List.mem_of_getElem? hxk)).1
          have HL : Hid (k < vs.length) := hlt
          clear hcell hxk
          go_wp2
          have hlt := HL.out
          go_round
          case rel => exact ⟨k + 1, by omega, by go_num⟩
          case measure => simp [intOf]; omega
        · obtain rfl : k = vs.length := by omega
          go_wp2
          refine bodyPost_ret (v := .tuple #[.agg #[.int .i64 0, .int .i64 0, .int .i64 0, .string ⟨#[]⟩, .slice none 0 0], .bool false]) (by simp [results, Tryz.results230, go_sem, c0]) rfl ⟨rfl, ?_⟩
          have pb := hb0.trans (hb3.mono hb0.size)
          clear c0 f0
          (repeat refine below_set0 ?_ _ _)
          exact pb

theorem asNumber_num (x : FV) (w : World) (h1 : x.kind = 1) :
    Calls Tryz.prog 177 #[.agg #[.int .i64 x.kind, .int .i64 x.num, .int .i64 x.den, .string x.text, .slice none 0 0]] w fun e w' => e = .returned (.agg #[.int .i64 x.kind, .int .i64 x.num, .int .i64 x.den, .string x.text, .slice none 0 0]) ∧ Below w.heap.size w w' := by
  have hu26 := Tryz.underlying31
  rw [h1]
  clear h1
  go_enter Tryz.func177, Tryz.ntmps177
  go_wp2
  refine bodyPost_ret (v := .agg #[.int .i64 1, .int .i64 x.num, .int .i64 x.den, .string x.text, .slice none 0 0]) (by simp [results, Tryz.results177, go_sem]) rfl ⟨rfl, ?_⟩
  exact ((Below.refl _ _).alloc (Nat.le_refl _) _).alloc (by simp) _

theorem asNumber_doubt (w : World) :
    Calls Tryz.prog 177 #[.agg #[.int .i64 6, .int .i64 0, .int .i64 0, .string ⟨#[]⟩, .slice none 0 0]] w fun e w' => e = .returned (.agg #[.int .i64 6, .int .i64 0, .int .i64 0, .string ⟨#[]⟩, .slice none 0 0]) ∧ Below w.heap.size w w' := by
  have hu26 := Tryz.underlying31
  go_enter Tryz.func177, Tryz.ntmps177
  go_wp2_with (go_at_call 34; refine (doubt_any _).mono ?_; rintro e w1 ⟨rfl, hb1⟩; obtain ⟨c1, f1, z1, k1⟩ := box_cells (heap_new2b _ _ _) hb1)
  refine bodyPost_ret (v := .agg #[.int .i64 6, .int .i64 0, .int .i64 0, .string ⟨#[]⟩, .slice none 0 0]) (by simp [results, Tryz.results177, go_sem, c1]) rfl ⟨rfl, ?_⟩
  have pb := below_two hb1
  clear c1 f1
  (repeat refine below_set1 ?_ _ _)
  exact pb

theorem isWhole_any (k n d : Int) (t : ByteArray) (A : Option Addr) (l c : Nat) (w : World) :
    Calls Tryz.prog 196 #[.agg #[.int .i64 k, .int .i64 n, .int .i64 d, .string t, .slice A l c]] w fun e w' => e = .returned (.bool (k == 1 && d == 1)) ∧ Below w.heap.size w w' := by
  have hu26 := Tryz.underlying31
  by_cases h : k = 1
  · subst h
    go_enter Tryz.func196, Tryz.ntmps196
    go_wp2
    go_ret
    exact ⟨rfl, (Below.refl _ _).alloc (Nat.le_refl _) _⟩
  · have t1 : (k == 1) = false := by simpa using h
    rw [t1]
    clear h
    go_enter Tryz.func196, Tryz.ntmps196
    go_wp2
    go_ret
    exact ⟨rfl, (Below.refl _ _).alloc (Nat.le_refl _) _⟩

set_option maxRecDepth 100000 in
set_option maxHeartbeats 1000000 in
/-- 'numbers(args)' of numbers. -/
theorem numbers_num (vs : List FV) (v : Value) (w : World) (hr : Row w w.heap.size 5 v (vs.map FV.list)) (hk : ∀ x ∈ vs, x.kind = 1) (hn : vs.length ≤ 1000000) :
    Calls Tryz.prog 213 #[v] w fun e w' => ∃ v', e = .returned (.tuple #[v', .agg #[.int .i64 0, .int .i64 0, .int .i64 0, .string ⟨#[]⟩, .slice none 0 0], .bool true]) ∧ Row w' w'.heap.size 5 v' (vs.map FV.list) ∧ Below w.heap.size w w' := by
  have HK : Hid (∀ x ∈ vs, x.kind = 1) := hk
  have HKF : Hid (∀ x ∈ vs, x.kind ≠ 4 ∧ x.kind ≠ 5 ∧ x.kind ≠ 6) := fun x hx => by have := hk x hx; omega
  clear hk
  obtain ⟨w0, hw0⟩ : ∃ w0 : World, w0 = w.alloc (.cells #[.int .i64 0, .int .i64 0, .int .i64 0, .string ⟨#[]⟩, .slice none 0 0] 31) := ⟨_, rfl⟩
  have hb0 : Below w.heap.size w w0 := by rw [hw0]; exact (Below.refl _ _).alloc (Nat.le_refl _) _
  have k0 : w0.heap[w.heap.size]? = some (.cells #[.int .i64 0, .int .i64 0, .int .i64 0, .string ⟨#[]⟩, .slice none 0 0] 31) := by rw [hw0]; exact heap_new1 _ _
  obtain ⟨A, c, rfl, hc1, hc2, hc3⟩ := (hr.below hb0).more hb0.size
  have HW0 := Lib.hid hw0.symm
  clear hr hw0
  rw [List.length_map] at hc1 hc3 ⊢
  have hu26 := Tryz.underlying31
  go_enter Tryz.func213, Tryz.ntmps213
  go_wp2
  rw [HW0.out]
  go_loopw [5, 6] (fun s i wr => ∃ k : Nat, k ≤ vs.length ∧ i = .int .i64 k ∧ Own wr w0.heap.size 31 5 s ((vs.take k).map FV.list) ∧ Below w0.heap.size w0 wr) (fun _ i _ => vs.length - (intOf i).toNat)
  case atStart => exact ⟨0, Nat.zero_le _, rfl, Own.nil_ _ _ _ _, Below.refl _ _⟩
  case round =>
    obtain ⟨k, hk1, rfl, hown, hb⟩ := hrel
    by_cases hlt : k < vs.length
    · obtain ⟨g, o, rfl, hg, hcell⟩ := hc3 (by omega)
      obtain ⟨x, hxk⟩ : ∃ x, vs[k]? = some x := ⟨_, List.getElem?_eq_getElem hlt⟩
      have hok := HK.out x (List.mem_of_getElem? hxk)
      have hx : (vs.map FV.list)[k]? = some (FV.list x) := by rw [List.getElem?_map, hxk]; rfl
      have q : ∀ j u, (FV.list x)[j]? = some u → wr.cell? ⟨g, o + k * 5 + j, none⟩ = some u := fun j u hu => (hb.cell (p := ⟨g, o + k * 5 + j, none⟩) hg).trans (hcell k _ hx j u hu)
      have q0 := q 0 _ rfl
      have q1 := q 1 _ rfl
      have q2 := q 2 _ rfl
      have q3 := q 3 _ rfl
      have q4 := q 4 _ rfl
      have HX : Hid ((vs.take (k + 1)).map FV.list = (vs.take k).map FV.list ++ [FV.list x]) := by
        rw [Hid, List.take_add_one, hxk]; simp
      have HL : Hid (((vs.take k).map FV.list).length = k) := by rw [Hid, List.length_map, List.length_take]; omega
      have HQ : Hid (k < vs.length) := hlt
      have HO := Lib.hid hok
      clear q hx hxk hcell hc3 hc2 hok
      simp only [Nat.add_zero] at q0
      go_wp2_with (first
        | (go_at_call 177; refine (asNumber_num x _ HO.out).mono ?_; rintro e w1 ⟨rfl, hb1⟩)
        | (at_builtin; refine app_one (w0 := w0) w0.heap.size rfl (.tmp 15) (.tmp 21) 26 31 _ 5 64 rfl Tryz.underlying26 valInfo rfl (by omega) (by omega) _ _ (FV.list x) rfl rfl rfl (by simp [FV.list, Value.oneCell']) (by simp) (hown.below hb1) (hb.trans (hb1.mono hb.size)) (Nat.le_trans hb.size hb1.size) (by rw [HL.out]; omega) ?_; intro v2 w2 hown2 hb2 _))
      have hlt := HQ.out
      go_roundw
      case rel => exact ⟨k + 1, by omega, by go_num, by rw [HX.out]; exact hown2, hb2⟩
      case measure => simp [intOf]; omega
    · obtain rfl : k = vs.length := by omega
      rw [List.take_length] at hown
      have HO := Lib.hid hown
      clear hown
      obtain ⟨c0, f0, z0, k1⟩ := box_cells k0 hb
      go_wp2_with (go_at_call 230; refine (first_clean vs _ _ HO.out.row HKF.out hn).mono ?_; rintro e w2 ⟨rfl, hb2⟩; obtain ⟨c2, f2, z2, k2⟩ := box_cells k1 hb2; clear c0 f0)
      have hw : w.heap.size < w0.heap.size := heap_lt k0
      refine bodyPost_ret (v := .tuple #[u5, .agg #[.int .i64 0, .int .i64 0, .int .i64 0, .string ⟨#[]⟩, .slice none 0 0], .bool true]) (by simp [results, Tryz.results213, go_sem, c2, z2]) rfl ⟨_, rfl, ?_, ?_⟩
      · have ho := HO.out.below hb2
        exact (((((((ho.setBelow hw _).setBelow hw _).setBelow hw _).setBelow hw _).setBelow hw _)).alloc _).row
      · have pb := hb0.trans ((hb.trans (hb2.mono hb.size)).mono hb0.size)
        clear c2 f2
        refine Below.alloc ?_ (by have h := pb.size; simpa [World.setCell] using h) _
        (repeat refine below_set0 ?_ _ _)
        exact pb

theorem intInfo : (Tryz.prog.info? 3).map (fun i => (i.zero, i.size, i.bytes)) = some (some (.int .i64 0), 1, 8) := by kernel_rfl

set_option maxRecDepth 100000 in
set_option maxHeartbeats 1000000 in
/-- 'wholes(args)' of whole numbers: the slice is a new one. -/
theorem wholes_own (vs : List FV) (v : Value) (w : World) (hr : Row w w.heap.size 5 v (vs.map FV.list)) (hk : ∀ x ∈ vs, x.kind = 1) (hd : ∀ x ∈ vs, x.den = 1) (hn : vs.length ≤ 1000000) :
    Calls Tryz.prog 220 #[v] w fun e w' => ∃ v' b, e = .returned (.tuple #[v', .agg #[.int .i64 0, .int .i64 0, .int .i64 0, .string ⟨#[]⟩, .slice none 0 0], .bool true]) ∧ w.heap.size < b ∧ Own w' b 3 1 v' (vs.map fun x => [Value.int .i64 x.num]) ∧ Below w.heap.size w w' := by
  obtain ⟨w0, hw0⟩ : ∃ w0 : World, w0 = w.alloc (.cells #[.int .i64 0, .int .i64 0, .int .i64 0, .string ⟨#[]⟩, .slice none 0 0] 31) := ⟨_, rfl⟩
  have hb0 : Below w.heap.size w w0 := by rw [hw0]; exact (Below.refl _ _).alloc (Nat.le_refl _) _
  have k0 : w0.heap[w.heap.size]? = some (.cells #[.int .i64 0, .int .i64 0, .int .i64 0, .string ⟨#[]⟩, .slice none 0 0] 31) := by rw [hw0]; exact heap_new1 _ _
  have HW0 := Lib.hid hw0.symm
  have HR := Lib.hid ((hr.below hb0).more hb0.size)
  have HK : Hid (∀ x ∈ vs, x.kind = 1) := hk
  have HD : Hid (∀ x ∈ vs, x.den = 1) := hd
  clear hr hk hd hw0
  have hu26 := Tryz.underlying31
  go_enter Tryz.func220, Tryz.ntmps220
  go_wp2_with (go_at_call 213; rw [HW0.out]; refine (numbers_num vs v _ HR.out HK.out hn).mono ?_; rintro e w2 ⟨v2, rfl, hR2, hb2⟩; obtain ⟨c0, f0, z0, k2⟩ := box_cells k0 hb2)
  obtain ⟨w3, hw3⟩ : ∃ w3 : World, w3 = w2.alloc (.cells #[.int .i64 0, .int .i64 0, .int .i64 0, .string ⟨#[]⟩, .slice none 0 0] 31) := ⟨_, rfl⟩
  have hb23 : Below w2.heap.size w2 w3 := by rw [hw3]; exact (Below.refl _ _).alloc (Nat.le_refl _) _
  rw [← hw3]
  clear hw3 c0 f0
  have k3 := (hb23.block _ z0).trans k2
  obtain ⟨A, c, rfl, hc1, hc2, hc3⟩ := (hR2.below hb23).more hb23.size
  have hb3 := hb0.trans ((hb2.trans (hb23.mono hb2.size)).mono hb0.size)
  rw [List.length_map] at hc1 hc3 ⊢
  have HC := Lib.hid hc3
  clear hc2 hc3
  go_loopw [8, 9] (fun s i wr => ∃ k : Nat, k ≤ vs.length ∧ i = .int .i64 k ∧ Own wr w3.heap.size 3 1 s ((vs.take k).map fun x => [Value.int .i64 x.num]) ∧ Below w3.heap.size w3 wr) (fun _ i _ => vs.length - (intOf i).toNat)
  case atStart => exact ⟨0, Nat.zero_le _, rfl, Own.nil_ _ _ _ _, Below.refl _ _⟩
  case round =>
    obtain ⟨k, hk1, rfl, hown, hbn⟩ := hrel
    by_cases hlt : k < vs.length
    · obtain ⟨g, o, rfl, hg, hcell⟩ := HC.out (by omega)
      obtain ⟨x, hxk⟩ : ∃ x, vs[k]? = some x := ⟨_, List.getElem?_eq_getElem hlt⟩
      have td : (x.den != 1) = false := by simpa using HD.out x (List.mem_of_getElem? hxk)
      have hx : (vs.map FV.list)[k]? = some (FV.list x) := by rw [List.getElem?_map, hxk]; rfl
      have q : ∀ j u, (FV.list x)[j]? = some u → wr.cell? ⟨g, o + k * 5 + j, none⟩ = some u := fun j u hu => (hbn.cell (p := ⟨g, o + k * 5 + j, none⟩) hg).trans (hcell k _ hx j u hu)
      have q1 := q 1 _ rfl
      have q2 := q 2 _ rfl
      have HX : Hid ((vs.take (k + 1)).map (fun x => [Value.int .i64 x.num]) = (vs.take k).map (fun x => [Value.int .i64 x.num]) ++ [[Value.int .i64 x.num]]) := by
        rw [Hid, List.take_add_one, hxk]; simp
      have HL : Hid (((vs.take k).map (fun x => [Value.int .i64 x.num])).length = k) := by rw [Hid, List.length_map, List.length_take]; omega
      have HQ : Hid (k < vs.length) := hlt
      clear q hx hxk hcell
      go_wp2_with (at_builtin; refine app_one (w0 := w3) w3.heap.size rfl (.tmp 32) (.tmp 38) 169 3 _ 1 8 rfl Tryz.underlying169 intInfo rfl (by omega) (by omega) _ _ [Value.int .i64 x.num] rfl rfl rfl (by simp [Value.oneCell']) (by simp) hown hbn hbn.size (by rw [HL.out]; omega) ?_; intro v3 w3 hown2 hb2 hg2)
      have hlt := HQ.out
      go_roundw
      case rel => exact ⟨k + 1, by omega, by go_num, by rw [HX.out]; exact hown2, hb2⟩
      case measure => simp [intOf]; omega
    · obtain rfl : k = vs.length := by omega
      rw [List.take_length] at hown
      have HO := Lib.hid hown
      clear hown
      obtain ⟨c4, f4, z4, k4⟩ := box_cells k3 hbn
      have hw : w.heap.size < w3.heap.size := heap_lt k3
      go_wp2
      refine bodyPost_ret (v := .tuple #[u8, .agg #[.int .i64 0, .int .i64 0, .int .i64 0, .string ⟨#[]⟩, .slice none 0 0], .bool true]) (by simp [results, Tryz.results220, go_sem, c4]) rfl ⟨_, w3.heap.size, rfl, hw, ?_, ?_⟩
      · have ho := HO.out
        exact ((((((ho.setBelow hw _).setBelow hw _).setBelow hw _).setBelow hw _).setBelow hw _))
      · have pb := hb3.trans (hbn.mono hb3.size)
        clear c4 f4
        (repeat refine below_set0 ?_ _ _)
        exact pb

/-- 'wholes(args)' of whole numbers. -/
theorem wholes_int (vs : List FV) (v : Value) (w : World) (hr : Row w w.heap.size 5 v (vs.map FV.list)) (hk : ∀ x ∈ vs, x.kind = 1) (hd : ∀ x ∈ vs, x.den = 1) (hn : vs.length ≤ 1000000) :
    Calls Tryz.prog 220 #[v] w fun e w' => ∃ v', e = .returned (.tuple #[v', .agg #[.int .i64 0, .int .i64 0, .int .i64 0, .string ⟨#[]⟩, .slice none 0 0], .bool true]) ∧ Row w' w'.heap.size 1 v' (vs.map fun x => [Value.int .i64 x.num]) ∧ Below w.heap.size w w' :=
  (wholes_own vs v w hr hk hd hn).mono fun _ _ ⟨v', _, he, _, ho, hb⟩ => ⟨v', he, ho.row, hb⟩

set_option maxRecDepth 100000 in
theorem strict_num (vs : List FV) (v : Value) (w : World) (hr : Row w w.heap.size 5 v (vs.map FV.list)) (hk : ∀ x ∈ vs, x.kind = 1) (hn : vs.length ≤ 1000000) :
    Calls Tryz.prog 226 #[v] w fun e w' => e = .returned (.bool true) ∧ Below w.heap.size w w' := by
  have HK : Hid (∀ x ∈ vs, x.kind = 1) := hk
  clear hk
  obtain ⟨A, c, rfl, hc1, hc2, hc3⟩ := hr
  rw [List.length_map] at hc1 hc3 ⊢
  have HC := Lib.hid hc3
  clear hc2 hc3
  have hu26 := Tryz.underlying31
  go_enter Tryz.func226, Tryz.ntmps226
  go_wp2
  go_loop [3] (fun i => ∃ k : Nat, k ≤ vs.length ∧ i = .int .i64 k) (fun i => vs.length - (intOf i).toNat)
  case atStart => exact ⟨0, Nat.zero_le _, rfl⟩
  case round =>
    obtain ⟨k, hk1, rfl⟩ := hrel
    by_cases hlt : k < vs.length
    · obtain ⟨g, o, rfl, hg, hcell⟩ := HC.out (by omega)
      obtain ⟨x, hxk⟩ : ∃ x, vs[k]? = some x := ⟨_, List.getElem?_eq_getElem hlt⟩
      have q0 := hcell k (FV.list x) (by rw [List.getElem?_map, hxk]; rfl) 0 _ rfl
      simp only [Nat.add_zero] at q0
      have t1 : (x.kind != 1) = false := by simpa using HK.out x (List.mem_of_getElem? hxk)
      have HL : Hid (k < vs.length) := hlt
      clear hcell hxk
      go_wp2
      have hlt := HL.out
      go_round
      case rel => exact ⟨k + 1, by omega, by go_num⟩
      case measure => simp [intOf]; omega
    · obtain rfl : k = vs.length := by omega
      go_wp2
      go_ret
      exact ⟨rfl, Below.refl _ _⟩

end Go.Proofs.YtkglbccdiofnkaaGreatDoor
