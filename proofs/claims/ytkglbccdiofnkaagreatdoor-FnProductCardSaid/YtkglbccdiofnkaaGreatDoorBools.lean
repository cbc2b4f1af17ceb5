/-
Truths of the reference, as values.
-/
import Derived.Test.YtkglbccdiofnkaaGreatDoorMade
namespace Go.Proofs.YtkglbccdiofnkaaGreatDoor
open Go.RowKit

def bv (b : Bool) : FV := ⟨3, if b then 1 else 0, 0, ⟨#[]⟩⟩
theorem bool_any (b : Bool) (w : World) :
    Calls Tryz.prog 47 #[.bool b] w fun e w' => e = .returned (.agg #[.int .i64 3, .int .i64 (bv b).num, .int .i64 0, .string ⟨#[]⟩, .slice none 0 0]) ∧ Below w.heap.size w w' := by
  cases b
  · go_enter Tryz.func47, Tryz.ntmps47
    go_wp2
    exact bodyPost_ret (v := .agg #[.int .i64 3, .int .i64 0, .int .i64 0, .string ⟨#[]⟩, .slice none 0 0]) (by simp [results, Tryz.results47, go_sem]) rfl ⟨rfl, (Below.refl _ _).alloc (Nat.le_refl _) _⟩
  · go_enter Tryz.func47, Tryz.ntmps47
    go_wp2
    exact bodyPost_ret (v := .agg #[.int .i64 3, .int .i64 1, .int .i64 0, .string ⟨#[]⟩, .slice none 0 0]) (by simp [results, Tryz.results47, go_sem]) rfl ⟨rfl, (Below.refl _ _).alloc (Nat.le_refl _) _⟩

end Go.Proofs.YtkglbccdiofnkaaGreatDoor
