/-
Texts and errors of the reference.
-/
import Derived.Test.YtopomonencffkaaGreatDoorOver
namespace Go.Proofs.YtopomonencffkaaGreatDoor
open Go.RowKit

theorem str_any (s : ByteArray) (w : World) :
    Calls Tryz.prog 15 #[.string s] w fun e w' => e = .returned (.agg #[.int .i64 2, .int .i64 0, .int .i64 0, .string s, .slice none 0 0]) ∧ Below w.heap.size w w' := by
  go_enter Tryz.func15, Tryz.ntmps15
  go_wp2
  exact bodyPost_ret (v := .agg #[.int .i64 2, .int .i64 0, .int .i64 0, .string s, .slice none 0 0]) (by simp [results, Tryz.results15, go_sem]) rfl ⟨rfl, (Below.refl _ _).alloc (Nat.le_refl _) _⟩

theorem err_any (s : ByteArray) (w : World) :
    Calls Tryz.prog 40 #[.string s] w fun e w' => e = .returned (.agg #[.int .i64 4, .int .i64 0, .int .i64 0, .string s, .slice none 0 0]) ∧ Below w.heap.size w w' := by
  go_enter Tryz.func40, Tryz.ntmps40
  go_wp2
  exact bodyPost_ret (v := .agg #[.int .i64 4, .int .i64 0, .int .i64 0, .string s, .slice none 0 0]) (by simp [results, Tryz.results40, go_sem]) rfl ⟨rfl, (Below.refl _ _).alloc (Nat.le_refl _) _⟩

end Go.Proofs.YtopomonencffkaaGreatDoor
