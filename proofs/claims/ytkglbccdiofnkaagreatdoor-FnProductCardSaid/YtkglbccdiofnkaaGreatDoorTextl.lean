/-
'texts' of the reference, at texts; a part of a slice.
-/
import Derived.Test.YtkglbccdiofnkaaGreatDoorTexts
namespace Go.Proofs.YtkglbccdiofnkaaGreatDoor
open Go.RowKit

theorem strInfo : (Tryz.prog.info? 9).map (fun i => (i.zero, i.size, i.bytes)) = some (some (.string ⟨#[]⟩), 1, 16) := by kernel_rfl

/-- A part of a slice. -/
theorem Row.part {w : World} {B sz n c : Nat} {g o : Nat} {cs : List (List Value)} (h : Row w B sz (.slice (some ⟨g, o, none⟩) n c) cs) (lo m c' : Nat) (hm : lo + m ≤ cs.length) (hc' : m ≤ c') :
    Row w B sz (.slice (some ⟨g, o + lo * sz, none⟩) m c') ((cs.drop lo).take m) := by
  obtain ⟨A, c1, h1, h2, h3, h4⟩ := h
  injection h1 with e1 e2 e3
  have hl : ((cs.drop lo).take m).length = m := by rw [List.length_take, List.length_drop]; omega
  refine ⟨_, c', by rw [hl], by omega, fun x hx => h3 x (List.mem_of_mem_drop (List.mem_of_mem_take hx)), fun h0 => ?_⟩
  rw [hl] at h0
  obtain ⟨g1, o1, hA, hg, hc⟩ := h4 (by omega)
  rw [← e1] at hA
  injection hA with hA
  injection hA with a1 a2 a3
  subst a1 a2
  refine ⟨g, o + lo * sz, rfl, hg, fun i x hx j u hu => ?_⟩
  have hx' : cs[lo + i]? = some x := by
    rw [List.getElem?_take] at hx
    split at hx
    · rwa [List.getElem?_drop] at hx
    · simp at hx
  have := hc (lo + i) x hx' j u hu
  rwa [show o + (lo + i) * sz + j = o + lo * sz + i * sz + j by rw [Nat.add_mul]; omega] at this

set_option maxRecDepth 100000 in
set_option maxHeartbeats 1000000 in
/-- 'texts(args)' of plain texts. -/
theorem texts_str (vs : List FV) (v : Value) (w : World) (hr : Row w w.heap.size 5 v (vs.map FV.list)) (hk : ∀ x ∈ vs, x = ⟨2, 0, 0, x.text⟩) (ha : ∀ x ∈ vs, asciiB x.text = true) (hz : ∀ x ∈ vs, x.text.size ≤ 1000000000) (hn : vs.length ≤ 1000000) :
    Calls Tryz.prog 235 #[v] w fun e w' => ∃ v', e = .returned (.tuple #[v', .agg #[.int .i64 0, .int .i64 0, .int .i64 0, .string ⟨#[]⟩, .slice none 0 0], .bool true]) ∧ Row w' w'.heap.size 1 v' (vs.map fun x => [Value.string x.text]) ∧ Below w.heap.size w w' := by
  have HK : Hid (∀ x ∈ vs, x = ⟨2, 0, 0, x.text⟩) := hk
  have HA : Hid (∀ x ∈ vs, asciiB x.text = true) := ha
  have HZ : Hid (∀ x ∈ vs, x.text.size ≤ 1000000000) := hz
  have HKF : Hid (∀ x ∈ vs, x.kind ≠ 4 ∧ x.kind ≠ 5 ∧ x.kind ≠ 6) := fun x hx => by rw [hk x hx]; simp
  clear hk ha hz
  obtain ⟨w0, hw0⟩ : ∃ w0 : World, w0 = w.alloc (.cells #[.int .i64 0, .int .i64 0, .int .i64 0, .string ⟨#[]⟩, .slice none 0 0] 31) := ⟨_, rfl⟩
  have hb0 : Below w.heap.size w w0 := by rw [hw0]; exact (Below.refl _ _).alloc (Nat.le_refl _) _
  have k0 : w0.heap[w.heap.size]? = some (.cells #[.int .i64 0, .int .i64 0, .int .i64 0, .string ⟨#[]⟩, .slice none 0 0] 31) := by rw [hw0]; exact heap_new1 _ _
  obtain ⟨A, c, rfl, hc1, hc2, hc3⟩ := (hr.below hb0).more hb0.size
  have HW0 := Lib.hid hw0.symm
  clear hr hw0
  rw [List.length_map] at hc1 hc3 ⊢
  have hu26 := Tryz.underlying31
  go_enter Tryz.func235, Tryz.ntmps235
  go_wp2
  rw [HW0.out]
  go_loopw [5, 6] (fun s i wr => ∃ k : Nat, k ≤ vs.length ∧ i = .int .i64 k ∧ Own wr w0.heap.size 31 5 s ((vs.take k).map FV.list) ∧ Below w0.heap.size w0 wr) (fun _ i _ => vs.length - (intOf i).toNat)
  case atStart => exact ⟨0, Nat.zero_le _, rfl, Own.nil_ _ _ _ _, Below.refl _ _⟩
  case round =>
    obtain ⟨k, hk1, rfl, hown, hb⟩ := hrel
    by_cases hlt : k < vs.length
    · obtain ⟨g, o, rfl, hg, hcell⟩ := hc3 (by omega)
      obtain ⟨x, hxk⟩ : ∃ x, vs[k]? = some x := ⟨_, List.getElem?_eq_getElem hlt⟩
      have hok := HK.out x (List.mem_of_getElem? hxk)
      have haa := HA.out x (List.mem_of_getElem? hxk)
      have hzz := HZ.out x (List.mem_of_getElem? hxk)
      obtain ⟨t, ht⟩ : ∃ t, x.text = t := ⟨_, rfl⟩
      rw [ht] at hok haa hzz
      subst hok
      have hx : (vs.map FV.list)[k]? = some (FV.list ⟨2, 0, 0, t⟩) := by rw [List.getElem?_map, hxk]; rfl
      have q : ∀ j u, (FV.list ⟨2, 0, 0, t⟩)[j]? = some u → wr.cell? ⟨g, o + k * 5 + j, none⟩ = some u := fun j u hu => (hb.cell (p := ⟨g, o + k * 5 + j, none⟩) hg).trans (hcell k _ hx j u hu)
      have q0 := q 0 _ rfl
      have q1 := q 1 _ rfl
      have q2 := q 2 _ rfl
      have q3 := q 3 _ rfl
      have q4 := q 4 _ rfl
      have HX : Hid ((vs.take (k + 1)).map FV.list = (vs.take k).map FV.list ++ [FV.list ⟨2, 0, 0, t⟩]) := by
        rw [Hid, List.take_add_one, hxk]; simp
      have HL : Hid (((vs.take k).map FV.list).length = k) := by rw [Hid, List.length_map, List.length_take]; omega
      have HQ : Hid (k < vs.length) := hlt
      have HAA := Lib.hid haa
      have HZZ := Lib.hid hzz
      clear q hx hxk hcell hc3 hc2 haa hzz ht
      simp only [Nat.add_zero] at q0
      go_wp2_with (first
        | (go_at_call 176; refine (asText_plain t _ HZZ.out HAA.out).mono ?_; rintro e w1 ⟨rfl, hb1⟩)
        | (at_builtin; refine app_one (w0 := w0) w0.heap.size rfl (.tmp 17) (.tmp 23) 26 31 _ 5 64 rfl Tryz.underlying26 valInfo rfl (by omega) (by omega) _ _ (FV.list ⟨2, 0, 0, t⟩) rfl rfl rfl (by simp [FV.list, Value.oneCell']) (by simp) (hown.below hb1) (hb.trans (hb1.mono hb.size)) (Nat.le_trans hb.size hb1.size) (by rw [HL.out]; omega) ?_; intro v2 w2 hown2 hb2 _))
      have hlt := HQ.out
      go_roundw
      case rel => exact ⟨k + 1, by omega, by go_num, by rw [HX.out]; exact hown2, hb2⟩
      case measure => simp [intOf]; omega
    · obtain rfl : k = vs.length := by omega
      rw [List.take_length] at hown
      have HO := Lib.hid hown
      clear hown
      obtain ⟨c0, f0, z0, k1⟩ := box_cells k0 hb
      go_wp2_with (go_at_call 230; refine (first_clean vs _ _ HO.out.row HKF.out hn).mono ?_; rintro e w2 ⟨rfl, hb2⟩; obtain ⟨c2, f2, z2, k2⟩ := box_cells k1 hb2; clear c0 f0)
      have hR2 := (HO.out.row.below hb2).more hb2.size
      have hb02 := hb.trans (hb2.mono hb.size)
      obtain ⟨w3, hw3⟩ : ∃ w3 : World, w3 = w2.alloc (.cells #[.int .i64 0, .int .i64 0, .int .i64 0, .string ⟨#[]⟩, .slice none 0 0] 31) := ⟨_, rfl⟩
      have hb23 : Below w2.heap.size w2 w3 := by rw [hw3]; exact (Below.refl _ _).alloc (Nat.le_refl _) _
      rw [← hw3]
      clear hw3 c2 f2 hb2 HO
      have k3 := (hb23.block _ z2).trans k2
      obtain ⟨A2, c2, rfl, hd1, hd2, hd3⟩ := (hR2.below hb23).more hb23.size
      have hb3 := hb0.trans ((hb02.trans (hb23.mono hb02.size)).mono hb0.size)
      rw [List.length_map] at hd1 hd3 ⊢
      have HC := Lib.hid hd3
      clear hd2 hd3 hc3 hc2 hR2
      go_loopw [9, 10] (fun s i wr => ∃ k : Nat, k ≤ vs.length ∧ i = .int .i64 k ∧ Own wr w3.heap.size 9 1 s ((vs.take k).map fun x => [Value.string x.text]) ∧ Below w3.heap.size w3 wr) (fun _ i _ => vs.length - (intOf i).toNat)
      case atStart => exact ⟨0, Nat.zero_le _, rfl, Own.nil_ _ _ _ _, Below.refl _ _⟩
      case round =>
        obtain ⟨k, hk1, rfl, hown, hbn⟩ := hrel
        by_cases hlt : k < vs.length
        · obtain ⟨g, o, rfl, hg, hcell⟩ := HC.out (by omega)
          obtain ⟨x, hxk⟩ : ∃ x, vs[k]? = some x := ⟨_, List.getElem?_eq_getElem hlt⟩
          have hx : (vs.map FV.list)[k]? = some (FV.list x) := by rw [List.getElem?_map, hxk]; rfl
          have q : ∀ j u, (FV.list x)[j]? = some u → wr.cell? ⟨g, o + k * 5 + j, none⟩ = some u := fun j u hu => (hbn.cell (p := ⟨g, o + k * 5 + j, none⟩) hg).trans (hcell k _ hx j u hu)
          have q3 := q 3 _ rfl
          have HX : Hid ((vs.take (k + 1)).map (fun x => [Value.string x.text]) = (vs.take k).map (fun x => [Value.string x.text]) ++ [[Value.string x.text]]) := by
            rw [Hid, List.take_add_one, hxk]; simp
          have HL : Hid (((vs.take k).map (fun x => [Value.string x.text])).length = k) := by rw [Hid, List.length_map, List.length_take]; omega
          have HQ : Hid (k < vs.length) := hlt
          clear q hx hxk hcell
          go_wp2_with (at_builtin; refine app_one (w0 := w3) w3.heap.size rfl (.tmp 38) (.tmp 44) 61 9 _ 1 16 rfl Tryz.underlying61 strInfo rfl (by omega) (by omega) _ _ [Value.string x.text] rfl rfl rfl (by simp [Value.oneCell']) (by simp) hown hbn hbn.size (by rw [HL.out]; omega) ?_; intro v3 w4 hown2 hb4 hg2)
          have hlt := HQ.out
          go_roundw
          case rel => exact ⟨k + 1, by omega, by go_num, by rw [HX.out]; exact hown2, hb4⟩
          case measure => simp [intOf]; omega
        · obtain rfl : k = vs.length := by omega
          rw [List.take_length] at hown
          have HO := Lib.hid hown
          clear hown
          obtain ⟨c4, f4, z4, k4⟩ := box_cells k3 hbn
          have hw : w.heap.size < w3.heap.size := heap_lt k3
          go_wp2
          refine bodyPost_ret (v := .tuple #[u9, .agg #[.int .i64 0, .int .i64 0, .int .i64 0, .string ⟨#[]⟩, .slice none 0 0], .bool true]) (by simp [results, Tryz.results235, go_sem, c4]) rfl ⟨_, rfl, ?_, ?_⟩
          · have ho := HO.out
            exact ((((((ho.setBelow hw _).setBelow hw _).setBelow hw _).setBelow hw _).setBelow hw _)).row
          · have pb := hb3.trans (hbn.mono hb3.size)
            clear c4 f4
            (repeat refine below_set0 ?_ _ _)
            exact pb

end Go.Proofs.YtkglbccdiofnkaaGreatDoor
