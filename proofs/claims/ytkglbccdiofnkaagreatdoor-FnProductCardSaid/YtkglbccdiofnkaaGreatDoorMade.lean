/-
Texts and errors of the reference.
-/
import Derived.Test.YtkglbccdiofnkaaGreatDoorOver
namespace Go.Proofs.YtkglbccdiofnkaaGreatDoor
open Go.RowKit

theorem str_any (s : ByteArray) (w : World) :
    Calls Tryz.prog 18 #[.string s] w fun e w' => e = .returned (.agg #[.int .i64 2, .int .i64 0, .int .i64 0, .string s, .slice none 0 0]) ∧ Below w.heap.size w w' := by
  go_enter Tryz.func18, Tryz.ntmps18
  go_wp2
  exact bodyPost_ret (v := .agg #[.int .i64 2, .int .i64 0, .int .i64 0, .string s, .slice none 0 0]) (by simp [results, Tryz.results18, go_sem]) rfl ⟨rfl, (Below.refl _ _).alloc (Nat.le_refl _) _⟩

theorem err_any (s : ByteArray) (w : World) :
    Calls Tryz.prog 48 #[.string s] w fun e w' => e = .returned (.agg #[.int .i64 4, .int .i64 0, .int .i64 0, .string s, .slice none 0 0]) ∧ Below w.heap.size w w' := by
  go_enter Tryz.func48, Tryz.ntmps48
  go_wp2
  exact bodyPost_ret (v := .agg #[.int .i64 4, .int .i64 0, .int .i64 0, .string s, .slice none 0 0]) (by simp [results, Tryz.results48, go_sem]) rfl ⟨rfl, (Below.refl _ _).alloc (Nat.le_refl _) _⟩

end Go.Proofs.YtkglbccdiofnkaaGreatDoor
