/-
'Digits' and 'Plain' of the reference, at whole numbers: there is a text that they answer in every world.
-/
import Derived.Test.YtopomonencffkaaGreatDoorReadR
import Derived.Deep.QuietTactic
import Derived.BigQuiet
namespace Go.Proofs.YtopomonencffkaaGreatDoor
open Go.RowKit

/-- The digits of all bases. -/
def digs : ByteArray := ⟨#[48, 49, 50, 51, 52, 53, 54, 55, 56, 57, 65, 66, 67, 68, 69, 70, 71, 72, 73, 74, 75, 76, 77, 78, 79, 80, 81, 82, 83, 84, 85, 86, 87, 88, 89, 90]⟩

set_option maxRecDepth 100000 in
set_option maxHeartbeats 2000000 in
theorem digits_small (n : Nat) (hn : n < 10) (w : World) : Calls Tryz.prog 187 #[.int .i64 (n : Int), .int .i64 10] w fun e w' => e = .returned (.string (digs.extract n (n + 1))) ∧ Below w.heap.size w w' := by
  have hm : (n : Int).tmod 10 = (n : Int) := by rw [Int.tmod_eq_emod_of_nonneg (by omega)]; omega
  have h0 : (0 : Int) ≤ (n : Int) := by omega
  have h1 : (n : Int) < 10 := by omega
  have h2 : (n : Int) ≤ (n : Int) + 1 := by omega
  have h3 : (n : Int) + 1 ≤ 36 := by omega
  clear hn
  go_enter Tryz.func187, Tryz.ntmps187
  go_wp2
  go_quiet (fail)
  go_wp2
  go_ret
  exact ⟨rfl, Below.ofDrewN (Below.refl _ _)⟩

set_option maxRecDepth 100000 in
set_option maxHeartbeats 2000000 in
theorem digits_more (n q r : Nat) (t : ByteArray) (hn : n = 10 * q + r) (hr : r < 10) (hq : 0 < q) (hq2 : q < 1000000000000000000) (ht : t.size ≤ 100)
    (hC : ∀ W, Calls Tryz.prog 187 #[.int .i64 (q : Int), .int .i64 10] W fun e w' => e = .returned (.string t) ∧ Below W.heap.size W w') (w : World) :
    Calls Tryz.prog 187 #[.int .i64 (n : Int), .int .i64 10] w fun e w' => e = .returned (.string (t ++ digs.extract r (r + 1))) ∧ Below w.heap.size w w' := by
  have hm : (n : Int).tmod 10 = (r : Int) := by rw [Int.tmod_eq_emod_of_nonneg (by omega)]; omega
  have hd : (n : Int).tdiv 10 = (q : Int) := by rw [Int.tdiv_eq_ediv_of_nonneg (by omega)]; omega
  have h0 : (0 : Int) ≤ (r : Int) := by omega
  have h1 : ¬ (n : Int) < 10 := by omega
  have h2 : (r : Int) ≤ (r : Int) + 1 := by omega
  have h3 : (r : Int) + 1 ≤ 36 := by omega
  have HC := Lib.hid hC
  have HD := Lib.hid hd
  have HWQ : Hid (wrap64 (q : Int) = (q : Int)) := by rw [Hid]; unfold wrap64; omega
  clear hn hr hC hq hq2 hd
  go_enter Tryz.func187, Tryz.ntmps187
  go_wp2
  go_quiet (fail)
  have hd := HD.out
  have hwq := HWQ.out
  go_wp2_with (go_at_call 187; refine (HC.out _).mono ?_; rintro e w1 ⟨rfl, hb1⟩)
  go_ret
  exact ⟨rfl, Below.ofDrewN hb1⟩

theorem digits_some (k : Nat) : ∀ n : Nat, n < 10 ^ (k + 1) → k ≤ 16 → ∃ t : ByteArray, t.size ≤ k + 1 ∧ ∀ w, Calls Tryz.prog 187 #[.int .i64 (n : Int), .int .i64 10] w fun e w' => e = .returned (.string t) ∧ Below w.heap.size w w' := by
  induction k with
  | zero =>
    intro n hn _
    refine ⟨digs.extract n (n + 1), ?_, digits_small n (by omega)⟩
    rw [ByteArray.size_extract]; omega
  | succ k ih =>
    intro n hn hk
    by_cases h : n < 10
    · refine ⟨digs.extract n (n + 1), ?_, digits_small n h⟩
      rw [ByteArray.size_extract]; omega
    · have hq : n / 10 < 10 ^ (k + 1) := by
        rw [Nat.pow_succ] at hn
        omega
      have hp : 10 ^ (k + 1) ≤ 10 ^ 17 := Nat.pow_le_pow_right (by omega) (by omega)
      obtain ⟨t, ht, hC⟩ := ih (n / 10) hq (by omega)
      refine ⟨t ++ digs.extract (n % 10) (n % 10 + 1), ?_, fun w => digits_more n (n / 10) (n % 10) t (by omega) (by omega) (by omega) (by omega) (by omega) hC w⟩
      rw [ByteArray.size_append, ByteArray.size_extract]; omega

set_option maxRecDepth 100000 in
set_option maxHeartbeats 2000000 in
/-- 'Plain' of a whole number. -/
theorem plain_some (u : ByteArray) (n : Int) (h1 : n ≤ 99999999999) (h2 : -99999999999 ≤ n) :
    ∃ t : ByteArray, ∀ w, Calls Tryz.prog 226 #[.agg #[.int .i64 1, .int .i64 n, .int .i64 1, .string u, .slice none 0 0]] w fun e w' => e = .returned (.string t) ∧ Below w.heap.size w w' := by
  have hu26 := Tryz.underlying34
  obtain ⟨t, ht, hC⟩ := digits_some 11 n.natAbs (by omega) (by omega)
  have HC := Lib.hid hC
  clear hC
  by_cases h0 : n < 0
  · refine ⟨⟨#[45]⟩ ++ t, fun w => ?_⟩
    have hn : -n = (n.natAbs : Int) := by omega
    have hw : wrap64 (n.natAbs : Int) = (n.natAbs : Int) := by unfold wrap64; omega
    have hd : (n.natAbs : Int).tdiv 1 = (n.natAbs : Int) := Int.tdiv_one _
    clear h1 h2
    go_enter Tryz.func226, Tryz.ntmps226
    go_wp2_with (go_at_call 187; refine (HC.out _).mono ?_; rintro e w1 ⟨rfl, hb1⟩; obtain ⟨c1, f1, z1, k1⟩ := box_cells (heap_new1 w _) hb1)
    go_ret
    exact ⟨rfl, below_one hb1⟩
  · refine ⟨⟨#[]⟩ ++ t, fun w => ?_⟩
    obtain ⟨m, hm⟩ : ∃ m : Nat, m = n.natAbs := ⟨_, rfl⟩
    have hn : n = (m : Int) := by omega
    rw [← hm] at HC
    subst hn
    have hw : wrap64 (m : Int) = (m : Int) := by unfold wrap64; omega
    have hd : (m : Int).tdiv 1 = (m : Int) := Int.tdiv_one _
    clear h1 h2 hm
    go_enter Tryz.func226, Tryz.ntmps226
    go_wp2_with (go_at_call 187; refine (HC.out _).mono ?_; rintro e w1 ⟨rfl, hb1⟩; obtain ⟨c1, f1, z1, k1⟩ := box_cells (heap_new1 w _) hb1)
    go_ret
    exact ⟨rfl, below_one hb1⟩

end Go.Proofs.YtopomonencffkaaGreatDoor
