/-
Which parts of the reference do not know the function SUBSTITUTE.
-/
import Derived.Test.YtopomonencffkaaGreatDoorEvery
namespace Go.Proofs.YtopomonencffkaaGreatDoor
open Go.RowKit

set_option maxRecDepth 100000 in
set_option maxHeartbeats 2000000 in
theorem stat_Substitute (v : Value) (w : World) :
    Calls Tryz.prog 45 #[.string ⟨#[83, 85, 66, 83, 84, 73, 84, 85, 84, 69]⟩, v] w fun e w' => e = .returned (.tuple #[.agg #[.int .i64 0, .int .i64 0, .int .i64 0, .string ⟨#[]⟩, .slice none 0 0], .bool false]) ∧ Below w.heap.size w w' := by
  go_enter Tryz.func45, Tryz.ntmps45
  go_wp2
  exact bodyPost_ret (v := .tuple #[.agg #[.int .i64 0, .int .i64 0, .int .i64 0, .string ⟨#[]⟩, .slice none 0 0], .bool false]) (by simp [results, Tryz.results45, go_sem]) rfl ⟨rfl, (Below.refl _ _).alloc (Nat.le_refl _) _⟩

set_option maxRecDepth 100000 in
set_option maxHeartbeats 2000000 in
theorem criteria_Substitute (v : Value) (w : World) :
    Calls Tryz.prog 46 #[.string ⟨#[83, 85, 66, 83, 84, 73, 84, 85, 84, 69]⟩, v] w fun e w' => e = .returned (.tuple #[.agg #[.int .i64 0, .int .i64 0, .int .i64 0, .string ⟨#[]⟩, .slice none 0 0], .bool false]) ∧ Below w.heap.size w w' := by
  go_enter Tryz.func46, Tryz.ntmps46
  go_wp2
  exact bodyPost_ret (v := .tuple #[.agg #[.int .i64 0, .int .i64 0, .int .i64 0, .string ⟨#[]⟩, .slice none 0 0], .bool false]) (by simp [results, Tryz.results46, go_sem]) rfl ⟨rfl, (Below.refl _ _).alloc (Nat.le_refl _) _⟩

set_option maxRecDepth 100000 in
set_option maxHeartbeats 2000000 in
theorem lookup_Substitute (v : Value) (w : World) :
    Calls Tryz.prog 47 #[.string ⟨#[83, 85, 66, 83, 84, 73, 84, 85, 84, 69]⟩, v] w fun e w' => e = .returned (.tuple #[.agg #[.int .i64 0, .int .i64 0, .int .i64 0, .string ⟨#[]⟩, .slice none 0 0], .bool false]) ∧ Below w.heap.size w w' := by
  go_enter Tryz.func47, Tryz.ntmps47
  go_wp2
  exact bodyPost_ret (v := .tuple #[.agg #[.int .i64 0, .int .i64 0, .int .i64 0, .string ⟨#[]⟩, .slice none 0 0], .bool false]) (by simp [results, Tryz.results47, go_sem]) rfl ⟨rfl, (Below.refl _ _).alloc (Nat.le_refl _) _⟩

set_option maxRecDepth 100000 in
set_option maxHeartbeats 2000000 in
theorem callMath_Substitute (v : Value) (w : World) :
    Calls Tryz.prog 48 #[.string ⟨#[83, 85, 66, 83, 84, 73, 84, 85, 84, 69]⟩, v] w fun e w' => e = .returned (.tuple #[.agg #[.int .i64 0, .int .i64 0, .int .i64 0, .string ⟨#[]⟩, .slice none 0 0], .bool false]) ∧ Below w.heap.size w w' := by
  go_enter Tryz.func48, Tryz.ntmps48
  go_wp2
  exact bodyPost_ret (v := .tuple #[.agg #[.int .i64 0, .int .i64 0, .int .i64 0, .string ⟨#[]⟩, .slice none 0 0], .bool false]) (by simp [results, Tryz.results48, go_sem]) rfl ⟨rfl, (Below.refl _ _).alloc (Nat.le_refl _) _⟩

set_option maxRecDepth 100000 in
set_option maxHeartbeats 2000000 in
theorem fitsNumbers_Substitute (A : Option Addr) (n c : Nat) (w : World)
    (hV : ∀ W, Below w.heap.size w W → Calls Tryz.prog 145 #[.slice A n c, .func (.func 146) #[] #[]] W fun e w' => (∃ b, e = .returned (.bool b)) ∧ Below W.heap.size W w') :
    Calls Tryz.prog 68 #[.string ⟨#[83, 85, 66, 83, 84, 73, 84, 85, 84, 69]⟩, .slice A n c] w fun e w' => e = .returned (.tuple #[.bool false, .bool false]) ∧ Below w.heap.size w w' := by
  have HV := Lib.hid hV
  clear hV
  go_enter Tryz.func68, Tryz.ntmps68
  go_wp2_with (go_at_call 145; refine (HV.out _ (Below.refl _ _)).mono ?_; rintro e w1 ⟨⟨b, rfl⟩, hb1⟩)
  go_ret2
  exact ⟨rfl, hb1⟩

end Go.Proofs.YtopomonencffkaaGreatDoor
