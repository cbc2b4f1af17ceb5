/-
'Fits' of the reference, of functions whose own text says what they take.
-/
import Derived.Test.YtkglbccdiofnkaaGreatDoorOver
namespace Go.Proofs.YtkglbccdiofnkaaGreatDoor
open Go.RowKit

theorem fits_Others (name : ByteArray) (v : Value) (w : World)
    (h1 : ∀ W, Below w.heap.size w W → Calls Tryz.prog 86 #[.string name, v] W fun e w' => e = .returned (.tuple #[.bool false, .bool false]) ∧ Below W.heap.size W w')
    (h2 : ∀ W, Below w.heap.size w W → Calls Tryz.prog 87 #[.string name, v] W fun e w' => e = .returned (.tuple #[.bool false, .bool false]) ∧ Below W.heap.size W w')
    (h3 : ∀ W, Below w.heap.size w W → Calls Tryz.prog 88 #[.string name, v] W fun e w' => e = .returned (.tuple #[.bool false, .bool false]) ∧ Below W.heap.size W w')
    (h4 : ∀ W, Calls Tryz.prog 89 #[.string name] W fun e w' => e = .returned (.bool true) ∧ W = w') :
    Calls Tryz.prog 54 #[.string name, v] w fun e w' => e = .returned (.bool true) ∧ Below w.heap.size w w' := by
  have H1 := Lib.hid h1
  have H2 := Lib.hid h2
  have H3 := Lib.hid h3
  have H4 := Lib.hid h4
  clear h1 h2 h3 h4
  go_enter Tryz.func54, Tryz.ntmps54
  go_wp2_with (first
    | (go_at_call 86; refine (H1.out _ (Below.refl _ _)).mono ?_; rintro e w1 ⟨rfl, hb1⟩)
    | (go_at_call 87; refine (H2.out _ hb1).mono ?_; rintro e w2 ⟨rfl, hb2⟩; have pb2 := below_next hb1 hb1.size hb2)
    | (go_at_call 88; refine (H3.out _ pb2).mono ?_; rintro e w3 ⟨rfl, hb3⟩; have pb3 := below_next pb2 pb2.size hb3)
    | (go_at_call 89; refine (H4.out _).mono ?_; rintro e w4 ⟨rfl, rfl⟩))
  go_ret
  exact ⟨rfl, pb3⟩

end Go.Proofs.YtkglbccdiofnkaaGreatDoor
