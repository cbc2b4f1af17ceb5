/-
'countUTF16String' of the package, at a text of bytes below 128: its length.
-/
import Derived.Test.YtopomonencffkaaGreatDoorRunes
namespace Go.Proofs.YtopomonencffkaaGreatDoor
open Go.RowKit

theorem runeLen_small (n : Int) (w : World) (h0 : 0 ≤ n) (h1 : n < 128) :
    Calls Tryz.prog 225 #[.int .i32 n] w fun e w' => e = .returned (.int .i64 1) ∧ w = w' := by
  have h2 : n < 55296 := by omega
  go_enter Tryz.func225, Tryz.ntmps225
  go_wp2
  go_ret
  exact ⟨rfl, rfl⟩

set_option maxRecDepth 100000 in
theorem count_ascii (s : ByteArray) (w : World) (ha : asciiB s = true) (hs : s.size ≤ 1000000000) :
    Calls Tryz.prog 144 #[.string s] w fun e w' => e = .returned (.int .i64 (s.size : Int)) ∧ Below w.heap.size w w' := by
  have HL := Lib.hid (plain_lt ha)
  clear ha
  go_enter Tryz.func144, Tryz.ntmps144
  go_wp2
  go_loopw [3, 5] (fun cnt r wr => ∃ k : Nat, k ≤ s.size ∧ cnt = .int .i64 (k : Int) ∧ w.iter s k = wr) (fun cnt _ _ => s.size - (intOf cnt).toNat)
  case atStart => exact ⟨0, Nat.zero_le _, rfl, rfl⟩
  case round =>
    obtain ⟨k, hk1, rfl, rfl⟩ := hrel
    by_cases hlt : k < s.size
    · obtain ⟨n, hn⟩ : ∃ n : Nat, n = (s[k]'hlt).toNat := ⟨_, rfl⟩
      have hx : n < 128 := by
        rw [hn]
        exact HL.out _ (List.mem_of_getElem? (Lib.data_getElem? s k hlt))
      have hnx := fun ty => run_next_ascii (P := Tryz.prog) w s k ty hlt (by rw [← hn]; exact hx)
      rw [← hn] at hnx
      have HK : Hid (k < s.size) := hlt
      clear hn hlt
      go_wp2_with (go_at_call 225; refine (runeLen_small (n : Int) _ (by omega) (by omega)).mono ?_; rintro e w1 ⟨rfl, rfl⟩)
      have hlt := HK.out
      go_roundw
      case rel => exact ⟨k + 1, by omega, by go_num, rfl⟩
      case measure => simp [intOf]; omega
    · obtain rfl : k = s.size := by omega
      have hnx := fun ty => run_next_end (P := Tryz.prog) w s s.size ty hlt
      clear hlt
      go_wp2
      go_ret
      exact ⟨rfl, (Below.refl _ _).alloc (Nat.le_refl _) _⟩

end Go.Proofs.YtopomonencffkaaGreatDoor
