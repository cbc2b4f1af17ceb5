/-
Texts and errors of the reference.
-/
import Derived.Test.YtcljbgnbdmbkkaaGreatDoorOver
namespace Go.Proofs.YtcljbgnbdmbkkaaGreatDoor
open Go.RowKit

theorem str_any (s : ByteArray) (w : World) :
    Calls Tryz.prog 21 #[.string s] w fun e w' => e = .returned (.agg #[.int .i64 2, .int .i64 0, .int .i64 0, .string s, .slice none 0 0]) ∧ Below w.heap.size w w' := by
  go_enter Tryz.func21, Tryz.ntmps21
  go_wp2
  exact bodyPost_ret (v := .agg #[.int .i64 2, .int .i64 0, .int .i64 0, .string s, .slice none 0 0]) (by simp [results, Tryz.results21, go_sem]) rfl ⟨rfl, (Below.refl _ _).alloc (Nat.le_refl _) _⟩

theorem err_any (s : ByteArray) (w : World) :
    Calls Tryz.prog 50 #[.string s] w fun e w' => e = .returned (.agg #[.int .i64 4, .int .i64 0, .int .i64 0, .string s, .slice none 0 0]) ∧ Below w.heap.size w w' := by
  go_enter Tryz.func50, Tryz.ntmps50
  go_wp2
  exact bodyPost_ret (v := .agg #[.int .i64 4, .int .i64 0, .int .i64 0, .string s, .slice none 0 0]) (by simp [results, Tryz.results50, go_sem]) rfl ⟨rfl, (Below.refl _ _).alloc (Nat.le_refl _) _⟩

end Go.Proofs.YtcljbgnbdmbkkaaGreatDoor
