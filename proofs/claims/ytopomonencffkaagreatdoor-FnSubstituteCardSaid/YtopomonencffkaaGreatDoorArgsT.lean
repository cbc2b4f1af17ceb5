/-
A list of texts as arguments.
-/
import Derived.Test.YtopomonencffkaaGreatDoorConv
import Derived.Test.YtopomonencffkaaGreatDoorMade
import Derived.Test.YtopomonencffkaaGreatDoorTexts
namespace Go.Proofs.YtopomonencffkaaGreatDoor
open Go.RowKit

set_option maxRecDepth 100000 in
set_option maxHeartbeats 1000000 in
theorem argTexts_any (bs : List ByteArray) (v : Value) (w : World) (hr : Row w w.heap.size 1 v (bs.map fun b => [Value.string b])) (hn : bs.length ≤ 1000000) :
    Calls Tryz.prog 11 #[v] w fun e w' => ∃ v', e = .returned v' ∧ Own w' w.heap.size 34 5 v' ((bs.map fun x => (⟨2, 0, 0, x⟩ : FV)).map FV.list) ∧ Below w.heap.size w w' := by
  obtain ⟨A, c, rfl, hc1, hc2, hc3⟩ := hr
  rw [List.length_map] at hc1 hc3 ⊢
  go_enter Tryz.func11, Tryz.ntmps11
  go_wp2
  go_loopw [3, 4] (fun s i wr => ∃ k : Nat, k ≤ bs.length ∧ i = .int .i64 k ∧ Own wr w.heap.size 34 5 s (((bs.take k).map fun x => (⟨2, 0, 0, x⟩ : FV)).map FV.list) ∧ Below w.heap.size w wr) (fun _ i _ => bs.length - (intOf i).toNat)
  case atStart => exact ⟨0, Nat.zero_le _, rfl, Own.nil_ _ _ _ _, Below.refl _ _⟩
  case round =>
    obtain ⟨k, hk1, rfl, hown, hb⟩ := hrel
    by_cases hlt : k < bs.length
    · obtain ⟨g, o, rfl, hg, hcell⟩ := hc3 (by omega)
      obtain ⟨x, hxk⟩ : ∃ x, bs[k]? = some x := ⟨_, List.getElem?_eq_getElem hlt⟩
      have hx : (bs.map fun b => [Value.string b])[k]? = some [Value.string x] := by rw [List.getElem?_map, hxk]; rfl
      have q0 := (hb.cell (p := ⟨g, o + k * 1 + 0, none⟩) hg).trans (hcell k _ hx 0 _ rfl)
      simp only [Nat.add_zero, Nat.mul_one] at q0
      have HX : Hid (((bs.take (k + 1)).map fun x => (⟨2, 0, 0, x⟩ : FV)).map FV.list = ((bs.take k).map fun x => (⟨2, 0, 0, x⟩ : FV)).map FV.list ++ [FV.list (⟨2, 0, 0, x⟩)]) := by
        rw [Hid, List.take_add_one, hxk]; simp
      have HL : Hid ((((bs.take k).map fun x => (⟨2, 0, 0, x⟩ : FV)).map FV.list).length = k) := by rw [Hid, List.length_map, List.length_map, List.length_take]; omega
      have HK : Hid (k < bs.length) := hlt
      clear hx hxk hcell hc3 hc2
      go_wp2_with (first
        | (go_at_call 15; refine (str_any x _).mono ?_; rintro e w1 ⟨rfl, hb1⟩)
        | (at_builtin; refine app_one (w0 := w) w.heap.size rfl (.tmp 11) (.tmp 17) 26 34 _ 5 64 rfl Tryz.underlying26 valInfo rfl (by omega) (by omega) _ _ (FV.list (⟨2, 0, 0, x⟩)) rfl rfl rfl (by simp [FV.list, Value.oneCell']) (by simp) (hown.below hb1) (hb.trans (hb1.mono hb.size)) (Nat.le_trans hb.size hb1.size) (by rw [HL.out]; omega) ?_; intro v2 w2 hown2 hb2 _))
      have hlt := HK.out
      go_roundw
      case rel => exact ⟨k + 1, by omega, by go_num, by rw [HX.out]; exact hown2, hb2⟩
      case measure => simp [intOf]; omega
    · obtain rfl : k = bs.length := by omega
      rw [List.take_length] at hown
      go_wp2
      go_ret
      exact ⟨_, rfl, hown, hb⟩

end Go.Proofs.YtopomonencffkaaGreatDoor
