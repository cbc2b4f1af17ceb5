/-
Which parts of the reference do not know the function PRODUCT.
-/
import Derived.Test.YtkglbccdiofnkaaGreatDoorEvery
namespace Go.Proofs.YtkglbccdiofnkaaGreatDoor
open Go.RowKit

set_option maxRecDepth 100000 in
set_option maxHeartbeats 2000000 in
theorem fitsTexts_Product (A : Option Addr) (n c : Nat) (w : World) :
    Calls Tryz.prog 87 #[.string ⟨#[80, 82, 79, 68, 85, 67, 84]⟩, .slice A n c] w fun e w' => e = .returned (.tuple #[.bool false, .bool false]) ∧ Below w.heap.size w w' := by
  go_enter Tryz.func87, Tryz.ntmps87
  go_wp2
  go_ret2
  exact ⟨rfl, Below.refl _ _⟩

set_option maxRecDepth 100000 in
set_option maxHeartbeats 2000000 in
theorem fitsChoices_Product (A : Option Addr) (n c : Nat) (w : World) :
    Calls Tryz.prog 88 #[.string ⟨#[80, 82, 79, 68, 85, 67, 84]⟩, .slice A n c] w fun e w' => e = .returned (.tuple #[.bool false, .bool false]) ∧ Below w.heap.size w w' := by
  go_enter Tryz.func88, Tryz.ntmps88
  go_wp2
  go_ret2
  exact ⟨rfl, (Below.refl _ _).alloc (Nat.le_refl _) _⟩

set_option maxRecDepth 100000 in
set_option maxHeartbeats 2000000 in
theorem others_Product (w : World) :
    Calls Tryz.prog 89 #[.string ⟨#[80, 82, 79, 68, 85, 67, 84]⟩] w fun e w' => e = .returned (.bool true) ∧ w = w' := by
  go_enter Tryz.func89, Tryz.ntmps89
  go_wp2
  go_ret
  exact ⟨rfl, rfl⟩

set_option maxRecDepth 100000 in
set_option maxHeartbeats 2000000 in
theorem fitsNumbers_Product (A : Option Addr) (n c : Nat) (w : World)
    (hV : ∀ W, Below w.heap.size w W → Calls Tryz.prog 170 #[.slice A n c, .func (.func 171) #[] #[]] W fun e w' => (∃ b, e = .returned (.bool b)) ∧ Below W.heap.size W w') :
    Calls Tryz.prog 86 #[.string ⟨#[80, 82, 79, 68, 85, 67, 84]⟩, .slice A n c] w fun e w' => e = .returned (.tuple #[.bool false, .bool false]) ∧ Below w.heap.size w w' := by
  have HV := Lib.hid hV
  clear hV
  go_enter Tryz.func86, Tryz.ntmps86
  go_wp2_with (go_at_call 170; refine (HV.out _ (Below.refl _ _)).mono ?_; rintro e w1 ⟨⟨b, rfl⟩, hb1⟩)
  go_ret2
  exact ⟨rfl, hb1⟩

end Go.Proofs.YtkglbccdiofnkaaGreatDoor
