/-
'Ascii', 'AsText', 'textual' of the reference, at texts.
-/
import Derived.Test.YtkglbccdiofnkaaGreatDoorNums
import Derived.Test.YtkglbccdiofnkaaGreatDoorOver
import Derived.Lib.IndexBytes
namespace Go.Proofs.YtkglbccdiofnkaaGreatDoor
open Go.RowKit

/-- A byte from blank to tilde. -/
def plainB (b : UInt8) : Bool := decide (32 ≤ b.toNat) && decide (b.toNat ≤ 126)
/-- A text of such bytes. -/
def asciiB (s : ByteArray) : Bool := s.data.toList.all plainB

set_option maxRecDepth 100000 in
theorem ascii_any (s : ByteArray) (w : World) (hs : s.size ≤ 1000000000) :
    Calls Tryz.prog 178 #[.string s] w fun e w' => e = .returned (.bool (asciiB s)) ∧ w = w' := by
  have hlen : s.data.toList.length = s.size := Array.length_toList
  go_enter Tryz.func178, Tryz.ntmps178
  go_wp2
  go_loop [3] (fun i => ∃ k : Nat, k ≤ s.size ∧ i = .int .i64 k ∧ (s.data.toList.take k).all plainB = true) (fun i => s.size - (intOf i).toNat)
  case atStart => exact ⟨0, Nat.zero_le _, rfl, rfl⟩
  case round =>
    obtain ⟨k, hk1, rfl, hall⟩ := hrel
    have HA := Lib.hid hall
    clear hall
    by_cases hlt : k < s.size
    · obtain ⟨x, hx⟩ : ∃ x : UInt8, s[k] = x := ⟨_, rfl⟩
      have hxl : s.data.toList[k]? = some x := by rw [← hx]; exact Lib.data_getElem? s k hlt
      have HX : Hid ((s.data.toList.take (k + 1)).all plainB = ((s.data.toList.take k).all plainB && plainB x)) := by rw [Hid, List.take_add_one, hxl]; simp
      have HM : Hid (x ∈ s.data.toList) := List.mem_of_getElem? hxl
      have HK : Hid (k < s.size) := hlt
      have hkz : (k : Int) < (s.size : Int) := by omega
      clear hxl
      by_cases h1 : x.toNat < 32
      · have HR : Hid (asciiB s = false) := by
          rw [Hid]; unfold asciiB; rw [List.all_eq_false]; exact ⟨x, HM.out, by simp [plainB]; omega⟩
        have h1' : (x.toNat : Int) < 32 := by omega
        clear h1
        go_wp2
        go_ret
        exact ⟨by rw [HR.out]; rfl, rfl⟩
      · have h1' : ¬ (x.toNat : Int) < 32 := by omega
        by_cases h2 : 126 < x.toNat
        · have HR : Hid (asciiB s = false) := by
            rw [Hid]; unfold asciiB; rw [List.all_eq_false]; exact ⟨x, HM.out, by simp [plainB]; omega⟩
          have h2' : (126 : Int) < (x.toNat : Int) := by omega
          clear h1 h2
          go_wp2
          go_ret
          exact ⟨by rw [HR.out]; rfl, rfl⟩
        · have h2' : ¬ (126 : Int) < (x.toNat : Int) := by omega
          have HP : Hid (plainB x = true) := by simp [Hid, plainB]; omega
          clear h1 h2
          go_wp2
          have hlt := HK.out
          go_round
          case rel => exact ⟨k + 1, by omega, by go_num, by rw [HX.out, HA.out, HP.out]; rfl⟩
          case measure => simp [intOf]; omega
    · obtain rfl : k = s.size := by omega
      have HR : Hid (asciiB s = true) := by have := HA.out; rwa [← hlen, List.take_length] at this
      go_wp2
      go_ret
      exact ⟨by rw [HR.out]; rfl, rfl⟩

theorem asText_plain (s : ByteArray) (w : World) (hs : s.size ≤ 1000000000) (ha : asciiB s = true) :
    Calls Tryz.prog 176 #[.agg #[.int .i64 2, .int .i64 0, .int .i64 0, .string s, .slice none 0 0]] w fun e w' => e = .returned (.agg #[.int .i64 2, .int .i64 0, .int .i64 0, .string s, .slice none 0 0]) ∧ Below w.heap.size w w' := by
  have hu26 := Tryz.underlying31
  have HA := Lib.hid ha
  clear ha
  go_enter Tryz.func176, Tryz.ntmps176
  go_wp2_with (go_at_call 178; refine (ascii_any s _ hs).mono ?_; rintro e w1 ⟨rfl, rfl⟩; rw [HA.out])
  refine bodyPost_ret (v := .agg #[.int .i64 2, .int .i64 0, .int .i64 0, .string s, .slice none 0 0]) (by simp [results, Tryz.results176, go_sem]) rfl ⟨rfl, ?_⟩
  exact ((Below.refl _ _).alloc (Nat.le_refl _) _).alloc (by simp) _

theorem asText_other (s : ByteArray) (w : World) (hs : s.size ≤ 1000000000) (ha : asciiB s = false) :
    Calls Tryz.prog 176 #[.agg #[.int .i64 2, .int .i64 0, .int .i64 0, .string s, .slice none 0 0]] w fun e w' => e = .returned (.agg #[.int .i64 6, .int .i64 0, .int .i64 0, .string ⟨#[]⟩, .slice none 0 0]) ∧ Below w.heap.size w w' := by
  have hu26 := Tryz.underlying31
  have HA := Lib.hid ha
  clear ha
  go_enter Tryz.func176, Tryz.ntmps176
  go_wp2_with (first
    | (go_at_call 178; refine (ascii_any s _ hs).mono ?_; rintro e w1 ⟨rfl, rfl⟩; rw [HA.out])
    | (go_at_call 34; refine (doubt_any _).mono ?_; rintro e w1 ⟨rfl, hb1⟩; obtain ⟨c1, f1, z1, k1⟩ := box_cells (heap_new2b _ _ _) hb1))
  refine bodyPost_ret (v := .agg #[.int .i64 6, .int .i64 0, .int .i64 0, .string ⟨#[]⟩, .slice none 0 0]) (by simp [results, Tryz.results176, go_sem, c1]) rfl ⟨rfl, ?_⟩
  have pb := below_two hb1
  clear c1 f1
  (repeat refine below_set1 ?_ _ _)
  exact pb

theorem short_two (s : ByteArray) (w : World) :
    Calls Tryz.prog 210 #[.agg #[.int .i64 2, .int .i64 0, .int .i64 0, .string s, .slice none 0 0]] w fun e w' => e = .returned (.bool false) ∧ Below w.heap.size w w' := by
  have hu26 := Tryz.underlying31
  go_enter Tryz.func210, Tryz.ntmps210
  go_wp2_with (go_at_call 196; refine (isWhole_any _ _ _ _ _ _ _ _).mono ?_; rintro e w1 ⟨rfl, hb1⟩)
  go_ret
  exact ⟨rfl, below_one hb1⟩

theorem textual_str (s : ByteArray) (w : World) (hs : s.size ≤ 1000000000) :
    Calls Tryz.prog 175 #[.agg #[.int .i64 2, .int .i64 0, .int .i64 0, .string s, .slice none 0 0]] w fun e w' => e = .returned (.bool (asciiB s)) ∧ Below w.heap.size w w' := by
  have hu26 := Tryz.underlying31
  cases ha : asciiB s
  · have HA := Lib.hid ha
    clear ha
    go_enter Tryz.func175, Tryz.ntmps175
    go_wp2_with (first
      | (go_at_call 178; refine (ascii_any s _ hs).mono ?_; rintro e w1 ⟨rfl, rfl⟩; rw [HA.out])
      | (go_at_call 210; refine (short_two s _).mono ?_; rintro e w2 ⟨rfl, hb2⟩))
    go_ret
    exact ⟨rfl, below_one hb2⟩
  · have HA := Lib.hid ha
    clear ha
    go_enter Tryz.func175, Tryz.ntmps175
    go_wp2_with (go_at_call 178; refine (ascii_any s _ hs).mono ?_; rintro e w1 ⟨rfl, rfl⟩; rw [HA.out])
    go_ret
    exact ⟨rfl, (Below.refl _ _).alloc (Nat.le_refl _) _⟩

end Go.Proofs.YtkglbccdiofnkaaGreatDoor
