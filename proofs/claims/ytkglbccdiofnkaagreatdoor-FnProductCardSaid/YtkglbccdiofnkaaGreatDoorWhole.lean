/-
Whole numbers as arguments.
-/
import Derived.Test.YtkglbccdiofnkaaGreatDoorConv
import Derived.Test.YtkglbccdiofnkaaGreatDoorBase
namespace Go.Proofs.YtkglbccdiofnkaaGreatDoor
open Go.RowKit

theorem fr_whole (n : Int) : (fr (16 * n) = ⟨1, n, 1, ⟨#[]⟩⟩ ∧ n ≤ 99999999999 ∧ -99999999999 ≤ n) ∨ fr (16 * n) = ⟨6, 0, 0, ⟨#[]⟩⟩ := by
  by_cases h : n ≤ 99999999999 ∧ -99999999999 ≤ n
  · exact .inl ⟨fr_int n h, h.1, h.2⟩
  · exact .inr (fr_int_out n h)
theorem whole_ok (n : Int) (h1 : n ≤ 99999999999) (h2 : -99999999999 ≤ n) : (⟨1, n, 1, ⟨#[]⟩⟩ : FV).ok := ⟨by simp, fun _ => ⟨h1, h2, .inl rfl⟩, fun h => by simp at h⟩
theorem doubt_ok : (⟨6, 0, 0, ⟨#[]⟩⟩ : FV).ok := ⟨by simp, fun h => by simp at h, fun h => by simp at h⟩
theorem text_ok (t : ByteArray) : (⟨2, 0, 0, t⟩ : FV).ok := ⟨by simp, fun h => by simp at h, fun h => by simp at h⟩
theorem error_ok (t : ByteArray) : (⟨4, 0, 0, t⟩ : FV).ok := ⟨by simp, fun h => by simp at h, fun h => by simp at h⟩
theorem whole_six (n : Int) : (⟨1, n, 1, ⟨#[]⟩⟩ : FV).six = 16 * n := by unfold FV.six; simp; omega

theorem fr_good (m : Int) : (fr m).ok := by
  by_cases h : nn m ≤ 99999999999 ∧ -99999999999 ≤ nn m
  · rw [fr_in h]
    exact ⟨by simp, fun _ => ⟨h.1, h.2, nd_cases m⟩, fun h => by simp at h⟩
  · rw [fr_out h]
    exact doubt_ok

end Go.Proofs.YtkglbccdiofnkaaGreatDoor
