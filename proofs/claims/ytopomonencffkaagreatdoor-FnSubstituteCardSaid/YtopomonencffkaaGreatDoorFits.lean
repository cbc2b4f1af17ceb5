/-
'Fits' of the reference, by its parts.
-/
import Derived.Test.YtopomonencffkaaGreatDoorOver
namespace Go.Proofs.YtopomonencffkaaGreatDoor
open Go.RowKit

/-- 'Fits' by its parts. -/
theorem fits_Numbers (name : ByteArray) (v : Value) (w : World) (b : Bool)
    (h1 : ∀ W, Below w.heap.size w W → Calls Tryz.prog 68 #[.string name, v] W fun e w' => e = .returned (.tuple #[.bool b, .bool true]) ∧ Below W.heap.size W w') :
    Calls Tryz.prog 44 #[.string name, v] w fun e w' => e = .returned (.bool b) ∧ Below w.heap.size w w' := by
  have H1 := Lib.hid h1
  clear h1
  go_enter Tryz.func44, Tryz.ntmps44
  go_wp2_with (go_at_call 68; refine (H1.out _ (Below.refl _ _)).mono ?_; rintro e w1 ⟨rfl, hb1⟩)
  go_ret
  exact ⟨rfl, hb1⟩

theorem fits_Texts (name : ByteArray) (v : Value) (w : World) (b : Bool)
    (h1 : ∀ W, Below w.heap.size w W → Calls Tryz.prog 68 #[.string name, v] W fun e w' => e = .returned (.tuple #[.bool false, .bool false]) ∧ Below W.heap.size W w')
    (h2 : ∀ W, Below w.heap.size w W → Calls Tryz.prog 69 #[.string name, v] W fun e w' => e = .returned (.tuple #[.bool b, .bool true]) ∧ Below W.heap.size W w') :
    Calls Tryz.prog 44 #[.string name, v] w fun e w' => e = .returned (.bool b) ∧ Below w.heap.size w w' := by
  have H1 := Lib.hid h1
  have H2 := Lib.hid h2
  clear h1 h2
  go_enter Tryz.func44, Tryz.ntmps44
  go_wp2_with (first
    | (go_at_call 68; refine (H1.out _ (Below.refl _ _)).mono ?_; rintro e w1 ⟨rfl, hb1⟩)
    | (go_at_call 69; refine (H2.out _ hb1).mono ?_; rintro e w2 ⟨rfl, hb2⟩))
  go_ret
  exact ⟨rfl, hb1.trans (hb2.mono hb1.size)⟩

theorem fits_Choices (name : ByteArray) (v : Value) (w : World) (b : Bool)
    (h1 : ∀ W, Below w.heap.size w W → Calls Tryz.prog 68 #[.string name, v] W fun e w' => e = .returned (.tuple #[.bool false, .bool false]) ∧ Below W.heap.size W w')
    (h2 : ∀ W, Below w.heap.size w W → Calls Tryz.prog 69 #[.string name, v] W fun e w' => e = .returned (.tuple #[.bool false, .bool false]) ∧ Below W.heap.size W w')
    (h3 : ∀ W, Below w.heap.size w W → Calls Tryz.prog 70 #[.string name, v] W fun e w' => e = .returned (.tuple #[.bool b, .bool true]) ∧ Below W.heap.size W w') :
    Calls Tryz.prog 44 #[.string name, v] w fun e w' => e = .returned (.bool b) ∧ Below w.heap.size w w' := by
  have H1 := Lib.hid h1
  have H2 := Lib.hid h2
  have H3 := Lib.hid h3
  clear h1 h2 h3
  go_enter Tryz.func44, Tryz.ntmps44
  go_wp2_with (first
    | (go_at_call 68; refine (H1.out _ (Below.refl _ _)).mono ?_; rintro e w1 ⟨rfl, hb1⟩)
    | (go_at_call 69; refine (H2.out _ hb1).mono ?_; rintro e w2 ⟨rfl, hb2⟩; have pb2 := hb1.trans (hb2.mono hb1.size))
    | (go_at_call 70; refine (H3.out _ pb2).mono ?_; rintro e w3 ⟨rfl, hb3⟩))
  go_ret
  exact ⟨rfl, pb2.trans (hb3.mono pb2.size)⟩

end Go.Proofs.YtopomonencffkaaGreatDoor
