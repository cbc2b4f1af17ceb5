/-
A list of whole numbers as arguments.
-/
import Derived.Test.YtelkomojcohfcaaGreatDoorConv
namespace Go.Proofs.YtelkomojcohfcaaGreatDoor
open Go.RowKit

set_option maxRecDepth 100000 in
set_option maxHeartbeats 1000000 in
theorem argWholes_any (ns : List Int) (v : Value) (w : World) (hr : Row w w.heap.size 1 v (ns.map fun n => [Value.int .i64 n])) (hn : ns.length ≤ 1000000) :
    Calls Tryz.prog 6 #[v] w fun e w' => ∃ v', e = .returned v' ∧ Row w' w'.heap.size 5 v' ((ns.map fun n => fr (16 * n)).map FV.list) ∧ Below w.heap.size w w' := by
  obtain ⟨A, c, rfl, hc1, hc2, hc3⟩ := hr
  rw [List.length_map] at hc1 hc3 ⊢
  go_enter Tryz.func6, Tryz.ntmps6
  go_wp2
  go_loopw [3, 4] (fun s i wr => ∃ k : Nat, k ≤ ns.length ∧ i = .int .i64 k ∧ Own wr w.heap.size 30 5 s (((ns.take k).map fun n => fr (16 * n)).map FV.list) ∧ Below w.heap.size w wr) (fun _ i _ => ns.length - (intOf i).toNat)
  case atStart => exact ⟨0, Nat.zero_le _, rfl, Own.nil_ _ _ _ _, Below.refl _ _⟩
  case round =>
    obtain ⟨k, hk1, rfl, hown, hb⟩ := hrel
    by_cases hlt : k < ns.length
    · obtain ⟨g, o, rfl, hg, hcell⟩ := hc3 (by omega)
      obtain ⟨x, hxk⟩ : ∃ x, ns[k]? = some x := ⟨_, List.getElem?_eq_getElem hlt⟩
      have hx : (ns.map fun n => [Value.int .i64 n])[k]? = some [Value.int .i64 x] := by rw [List.getElem?_map, hxk]; rfl
      have q0 := (hb.cell (p := ⟨g, o + k * 1 + 0, none⟩) hg).trans (hcell k _ hx 0 _ rfl)
      simp only [Nat.add_zero, Nat.mul_one] at q0
      have HX : Hid (((ns.take (k + 1)).map fun n => fr (16 * n)).map FV.list = ((ns.take k).map fun n => fr (16 * n)).map FV.list ++ [FV.list (fr (16 * x))]) := by
        rw [Hid, List.take_add_one, hxk]; simp
      have HL : Hid ((((ns.take k).map fun n => fr (16 * n)).map FV.list).length = k) := by rw [Hid, List.length_map, List.length_map, List.length_take]; omega
      have HK : Hid (k < ns.length) := hlt
      obtain ⟨y, hy⟩ : ∃ y, y = fr (16 * x) := ⟨_, rfl⟩
      have HA : Hid (∀ W, Calls Tryz.prog 15 #[.int .i64 x] W fun e w' => e = .returned (.agg #[.int .i64 y.kind, .int .i64 y.num, .int .i64 y.den, .string y.text, .slice none 0 0]) ∧ Below W.heap.size W w') := by
        rw [hy]; exact fun W => argWhole_any x W
      rw [← hy] at HX
      clear hx hxk hcell hc3 hc2 hy
      go_wp2_with (first
        | (go_at_call 15; refine (HA.out _).mono ?_; rintro e w1 ⟨rfl, hb1⟩)
        | (at_builtin; refine app_one (w0 := w) w.heap.size rfl (.tmp 11) (.tmp 17) 25 30 _ 5 64 rfl Tryz.underlying25 valInfo rfl (by omega) (by omega) _ _ (FV.list y) rfl rfl rfl (by simp [FV.list, Value.oneCell']) (by simp) (hown.below hb1) (hb.trans (hb1.mono hb.size)) (Nat.le_trans hb.size hb1.size) (by rw [HL.out]; omega) ?_; intro v2 w2 hown2 hb2 _))
      have hlt := HK.out
      go_roundw
      case rel => exact ⟨k + 1, by omega, by go_num, by rw [HX.out]; exact hown2, hb2⟩
      case measure => simp [intOf]; omega
    · obtain rfl : k = ns.length := by omega
      rw [List.take_length] at hown
      go_wp2
      go_ret
      exact ⟨_, rfl, hown.row, hb⟩

end Go.Proofs.YtelkomojcohfcaaGreatDoor
