/-
Greatest common divisors of lists; whole numbers as values.
-/
import Derived.Test.YtelkomojcohfcaaGreatDoorWhole
namespace Go.Proofs.YtelkomojcohfcaaGreatDoor
open Go.RowKit

/-- The greatest common divisor of these. -/
def gcds (ns : List Nat) : Nat := ns.foldl Nat.gcd 0
theorem gcds_take (ns : List Nat) (k n : Nat) (h : ns[k]? = some n) : gcds (ns.take (k + 1)) = Nat.gcd (gcds (ns.take k)) n := by
  unfold gcds
  rw [List.take_add_one, h, List.foldl_append]
  rfl
theorem gcds_one (ns : List Nat) (n : Nat) (h : ns[0]? = some n) : gcds (ns.take 1) = n := by
  rw [gcds_take ns 0 n h]
  simp [gcds]
theorem gcds_le (ns : List Nat) (B : Nat) (hB : ∀ n ∈ ns, n ≤ B) : ∀ k, gcds (ns.take k) ≤ B := by
  intro k
  induction k with
  | zero => simp [gcds]
  | succ k ih =>
    rcases Nat.lt_or_ge k ns.length with h | h
    · obtain ⟨n, hn⟩ : ∃ n, ns[k]? = some n := ⟨_, List.getElem?_eq_getElem h⟩
      rw [gcds_take ns k n hn]
      have hnB := hB n (List.mem_of_getElem? hn)
      rcases Nat.eq_zero_or_pos n with h0 | h0
      · subst h0; rw [Nat.gcd_zero_right]; exact ih
      · exact Nat.le_trans (Nat.gcd_le_right _ h0) hnB
    · rw [List.take_of_length_le (by omega)]
      rw [List.take_of_length_le h] at ih
      exact ih

/-- A whole number as a value of the reference. -/
def wh (n : Nat) : FV := ⟨1, n, 1, ⟨#[]⟩⟩
theorem wh_six (n : Nat) : (wh n).six = 16 * (n : Int) := by unfold FV.six wh; simp; omega
end Go.Proofs.YtelkomojcohfcaaGreatDoor
