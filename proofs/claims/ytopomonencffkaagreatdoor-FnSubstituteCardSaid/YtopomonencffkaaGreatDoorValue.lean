/-
The text of a value of the package that is a text; 'shortTexts'.
-/
import Derived.Test.YtopomonencffkaaGreatDoorOut
import Derived.Test.YtopomonencffkaaGreatDoorTexts
namespace Go.Proofs.YtopomonencffkaaGreatDoor
open Go.RowKit Go.Fl

set_option maxRecDepth 100000 in
theorem value_str (n : Nat) (s u : ByteArray) (b : Bool) (w : World) :
    Calls Tryz.prog 64 #[.agg #[.string ⟨#[]⟩, .float .f64 n, .string s, .slice none 0 0, .slice none 0 0, .bool b, .string u, .int .u8 2, .pointer none, .pointer none]] w
      fun e w' => e = .returned (.string s) ∧ Below w.heap.size w w' := by
  have hu80 := Tryz.underlying70
  go_enter Tryz.func64, Tryz.ntmps64
  go_wp2
  go_ret
  exact ⟨rfl, (Below.refl _ _).alloc (Nat.le_refl _) _⟩

/-- Whether texts have at most 1000 bytes. -/
def shortB (ss : List ByteArray) : Bool := ss.all fun s => decide (s.size ≤ 1000)

set_option maxRecDepth 100000 in
theorem shortTexts_any (ss : List ByteArray) (v : Value) (w : World) (hr : Row w w.heap.size 1 v (ss.map fun s => [Value.string s])) (hn : ss.length ≤ 1000000) :
    Calls Tryz.prog 10 #[v] w fun e w' => e = .returned (.bool (shortB ss)) ∧ w = w' := by
  obtain ⟨A, c, rfl, hc1, hc2, hc3⟩ := hr
  rw [List.length_map] at hc1 hc3 ⊢
  go_enter Tryz.func10, Tryz.ntmps10
  go_wp2
  go_loop [3] (fun i => ∃ k : Nat, k ≤ ss.length ∧ i = .int .i64 k ∧ shortB (ss.take k) = true) (fun i => ss.length - (intOf i).toNat)
  case atStart => exact ⟨0, Nat.zero_le _, rfl, rfl⟩
  case round =>
    obtain ⟨k, hk1, rfl, hall⟩ := hrel
    have HA := Lib.hid hall
    clear hall
    by_cases hlt : k < ss.length
    · obtain ⟨g, o, rfl, hg, hcell⟩ := hc3 (by omega)
      obtain ⟨x, hxk⟩ : ∃ x, ss[k]? = some x := ⟨_, List.getElem?_eq_getElem hlt⟩
      have hx : (ss.map fun s => [Value.string s])[k]? = some [Value.string x] := by rw [List.getElem?_map, hxk]; rfl
      have q0 := hcell k _ hx 0 _ rfl
      simp only [Nat.add_zero, Nat.mul_one] at q0
      have HX : Hid (shortB (ss.take (k + 1)) = (shortB (ss.take k) && decide (x.size ≤ 1000))) := by
        rw [Hid]; unfold shortB; rw [List.take_add_one, hxk]; simp
      have HM : Hid (x ∈ ss) := List.mem_of_getElem? hxk
      have HK : Hid (k < ss.length) := hlt
      clear hx hxk hcell hc3 hc2
      by_cases hs : x.size ≤ 1000
      · have h1 : ¬ (1000 : Int) < (x.size : Int) := by omega
        have HS : Hid (decide (x.size ≤ 1000) = true) := by simpa [Hid] using hs
        clear hs
        go_wp2
        have hlt := HK.out
        go_round
        case rel => exact ⟨k + 1, by omega, by go_num, by rw [HX.out, HA.out, HS.out]; rfl⟩
        case measure => simp [intOf]; omega
      · have h1 : (1000 : Int) < (x.size : Int) := by omega
        have HR : Hid (shortB ss = false) := by
          rw [Hid]; unfold shortB; rw [List.all_eq_false]; exact ⟨x, HM.out, by simpa using hs⟩
        clear hs
        go_wp2
        go_ret
        exact ⟨by rw [HR.out]; rfl, rfl⟩
    · obtain rfl : k = ss.length := by omega
      have HR : Hid (shortB ss = true) := by have := HA.out; rwa [List.take_length] at this
      go_wp2
      go_ret
      exact ⟨by rw [HR.out]; rfl, rfl⟩

end Go.Proofs.YtopomonencffkaaGreatDoor
