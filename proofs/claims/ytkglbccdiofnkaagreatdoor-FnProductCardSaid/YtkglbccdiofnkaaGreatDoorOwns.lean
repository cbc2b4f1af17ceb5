/-
'all' and 'in' at single values: what they hand back is new.
-/
import Derived.Test.YtkglbccdiofnkaaGreatDoorTabs
import Derived.Test.YtkglbccdiofnkaaGreatDoorIn
namespace Go.Proofs.YtkglbccdiofnkaaGreatDoor
open Go.RowKit Go.Fl

set_option maxRecDepth 100000 in
set_option maxHeartbeats 1000000 in
theorem all_own (vs : List FV) (v : Value) (w : World) (hr : Row w w.heap.size 5 v (vs.map FV.list)) (hk : ∀ x ∈ vs, x.ok) (hn : vs.length ≤ 1000000) :
    Calls Tryz.prog 27 #[v] w fun e w' => ∃ v', e = .returned v' ∧ Own w' w.heap.size 49 4 v' (vs.map FV.ilist) ∧ Below w.heap.size w w' := by
  obtain ⟨A, c, rfl, hc1, hc2, hc3⟩ := hr
  rw [List.length_map] at hc1 hc3 ⊢
  go_enter Tryz.func27, Tryz.ntmps27
  go_wp2
  go_loopw [3, 4] (fun s i wr => ∃ k : Nat, k ≤ vs.length ∧ i = .int .i64 k ∧ Own wr w.heap.size 49 4 s ((vs.take k).map FV.ilist) ∧ Below w.heap.size w wr) (fun _ i _ => vs.length - (intOf i).toNat)
  case atStart => exact ⟨0, Nat.zero_le _, rfl, Own.nil_ _ _ _ _, Below.refl _ _⟩
  case round =>
    obtain ⟨k, hk1, rfl, hown, hb⟩ := hrel
    by_cases hlt : k < vs.length
    · obtain ⟨g, o, rfl, hg, hcell⟩ := hc3 (by omega)
      obtain ⟨x, hxk⟩ : ∃ x, vs[k]? = some x := ⟨_, List.getElem?_eq_getElem hlt⟩
      have hok := hk x (List.mem_of_getElem? hxk)
      have hx : (vs.map FV.list)[k]? = some (FV.list x) := by rw [List.getElem?_map, hxk]; rfl
      have q : ∀ j u, (FV.list x)[j]? = some u → wr.cell? ⟨g, o + k * 5 + j, none⟩ = some u := fun j u hu => (hb.cell (p := ⟨g, o + k * 5 + j, none⟩) hg).trans (hcell k _ hx j u hu)
      have q0 := q 0 _ rfl
      have q1 := q 1 _ rfl
      have q2 := q 2 _ rfl
      have q3 := q 3 _ rfl
      have q4 := q 4 _ rfl
      have hu26 := Tryz.underlying31
      have HX : Hid ((vs.take (k + 1)).map FV.ilist = (vs.take k).map FV.ilist ++ [FV.ilist x]) := map_take _ _ _ _ hxk
      have HL : Hid (((vs.take k).map FV.ilist).length = k) := by rw [Hid, List.length_map, List.length_take]; omega
      have HK : Hid (k < vs.length) := hlt
      clear q hx hxk hcell hc3 hk hc2
      simp only [Nat.add_zero] at q0
      go_wp2_with (first
        | (go_at_call 41; refine (of_one x _ hok).mono ?_; rintro e w1 ⟨rfl, hb1⟩)
        | (at_builtin; refine app_one (w0 := w) w.heap.size rfl (.tmp 11) (.tmp 17) 50 49 _ 4 56 rfl Tryz.underlying50 ivalInfo rfl (by omega) (by omega) _ _ (FV.ilist x) rfl rfl rfl (by simp [FV.ilist, Value.oneCell']) (by simp) (hown.below hb1) (hb.trans (hb1.mono hb.size)) (Nat.le_trans hb.size hb1.size) (by rw [HL.out]; omega) ?_; intro v2 w2 hown2 hb2 _))
      have hlt := HK.out
      go_roundw
      case rel => exact ⟨k + 1, by omega, by go_num, by rw [HX.out]; exact hown2, hb2⟩
      case measure => simp [intOf]; omega
    · obtain rfl : k = vs.length := by omega
      rw [List.take_length] at hown
      go_wp2
      go_ret
      exact ⟨_, rfl, hown, hb⟩

set_option maxRecDepth 100000 in
set_option maxHeartbeats 1000000 in
theorem in_own (vs : List PV) (v : Value) (w : World) (hr : Row w w.heap.size 4 v (vs.map PV.list)) (hn : vs.length ≤ 1000000) :
    Calls Tryz.prog 30 #[v] w fun e w' => ∃ v', e = .returned v' ∧ Own w' w.heap.size 55 4 v' (vs.map PV.list) ∧ Below w.heap.size w w' := by
  obtain ⟨A, c, rfl, hc1, hc2, hc3⟩ := hr
  rw [List.length_map] at hc1 hc3 ⊢
  go_enter Tryz.func30, Tryz.ntmps30
  go_wp2
  go_loopw [3, 11] (fun s i wr => ∃ k : Nat, k ≤ vs.length ∧ i = .int .i64 k ∧ Own wr w.heap.size 55 4 s ((vs.take k).map PV.list) ∧ Below w.heap.size w wr) (fun _ i _ => vs.length - (intOf i).toNat)
  case atStart => exact ⟨0, Nat.zero_le _, rfl, Own.nil_ _ _ _ _, Below.refl _ _⟩
  case round =>
    obtain ⟨k, hk1, rfl, hown, hb⟩ := hrel
    by_cases hlt : k < vs.length
    · obtain ⟨g, o, rfl, hg, hcell⟩ := hc3 (by omega)
      obtain ⟨x, hxk⟩ : ∃ x, vs[k]? = some x := ⟨_, List.getElem?_eq_getElem hlt⟩
      have hx : (vs.map PV.list)[k]? = some (PV.list x) := by rw [List.getElem?_map, hxk]; rfl
      have q : ∀ j u, (PV.list x)[j]? = some u → wr.cell? ⟨g, o + k * 4 + j, none⟩ = some u := fun j u hu => (hb.cell (p := ⟨g, o + k * 4 + j, none⟩) hg).trans (hcell k _ hx j u hu)
      have q0 := q 0 _ rfl
      have q1 := q 1 _ rfl
      have q2 := q 2 _ rfl
      have q3 := q 3 _ rfl
      have hu53 := Tryz.underlying49
      have hu59 := Tryz.underlying55
      have HX : Hid ((vs.take (k + 1)).map PV.list = (vs.take k).map PV.list ++ [PV.list x]) := map_take _ _ _ _ hxk
      have HL : Hid (((vs.take k).map PV.list).length = k) := by rw [Hid, List.length_map, List.length_take]; omega
      have HK : Hid (k < vs.length) := hlt
      have HO := Lib.hid hown
      clear q hx hxk hcell hc3 hc2 hown
      simp only [Nat.add_zero] at q0
      obtain ⟨wo, rfl⟩ : ∃ wo : World, wo = wr := ⟨_, rfl⟩
      go_wp2_with fail
      go_loop [25] (fun i => i = .int .i64 0) (fun _ => 0)
      case atStart => rfl
      case round =>
        subst hrel
        go_wp2_with (at_builtin; go_must (refine app_one (w0 := w) w.heap.size rfl (.tmp 37) (.tmp 39) 57 55 _ 4 56 rfl Tryz.underlying57 argInfo rfl (by omega) (by omega) _ _ (PV.list x) rfl rfl rfl (by simp [PV.list, Value.oneCell']) (by simp) ((HO.out.alloc _).alloc _) ((hb.alloc hb.size _).alloc (by have := hb.size; simp; omega) _) (by have := hb.size; simp; omega) (by rw [HL.out]; omega) ?_); intro v2 w2 hown2 hb2 _)
        have hlt := HK.out
        go_roundw
        case rel => exact ⟨k + 1, by omega, by go_num, by rw [HX.out]; exact hown2, hb2⟩
        case measure => simp [intOf]; omega
    · obtain rfl : k = vs.length := by omega
      rw [List.take_length] at hown
      go_wp2
      go_ret
      exact ⟨_, rfl, hown, hb⟩

end Go.Proofs.YtkglbccdiofnkaaGreatDoor
