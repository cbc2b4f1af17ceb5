/-
Which parts of the reference do not know the function GESTEP.
-/
import Derived.Test.YtededpnjijfieaaGreatDoorEvery
namespace Go.Proofs.YtededpnjijfieaaGreatDoor
open Go.RowKit

set_option maxRecDepth 100000 in
set_option maxHeartbeats 2000000 in
theorem stat_Gestep (v : Value) (w : World) :
    Calls Tryz.prog 55 #[.string ⟨#[71, 69, 83, 84, 69, 80]⟩, v] w fun e w' => e = .returned (.tuple #[.agg #[.int .i64 0, .int .i64 0, .int .i64 0, .string ⟨#[]⟩, .slice none 0 0], .bool false]) ∧ Below w.heap.size w w' := by
  go_enter Tryz.func55, Tryz.ntmps55
  go_wp2
  exact bodyPost_ret (v := .tuple #[.agg #[.int .i64 0, .int .i64 0, .int .i64 0, .string ⟨#[]⟩, .slice none 0 0], .bool false]) (by simp [results, Tryz.results55, go_sem]) rfl ⟨rfl, (Below.refl _ _).alloc (Nat.le_refl _) _⟩

set_option maxRecDepth 100000 in
set_option maxHeartbeats 2000000 in
theorem criteria_Gestep (v : Value) (w : World) :
    Calls Tryz.prog 56 #[.string ⟨#[71, 69, 83, 84, 69, 80]⟩, v] w fun e w' => e = .returned (.tuple #[.agg #[.int .i64 0, .int .i64 0, .int .i64 0, .string ⟨#[]⟩, .slice none 0 0], .bool false]) ∧ Below w.heap.size w w' := by
  go_enter Tryz.func56, Tryz.ntmps56
  go_wp2
  exact bodyPost_ret (v := .tuple #[.agg #[.int .i64 0, .int .i64 0, .int .i64 0, .string ⟨#[]⟩, .slice none 0 0], .bool false]) (by simp [results, Tryz.results56, go_sem]) rfl ⟨rfl, (Below.refl _ _).alloc (Nat.le_refl _) _⟩

set_option maxRecDepth 100000 in
set_option maxHeartbeats 2000000 in
theorem lookup_Gestep (v : Value) (w : World) :
    Calls Tryz.prog 57 #[.string ⟨#[71, 69, 83, 84, 69, 80]⟩, v] w fun e w' => e = .returned (.tuple #[.agg #[.int .i64 0, .int .i64 0, .int .i64 0, .string ⟨#[]⟩, .slice none 0 0], .bool false]) ∧ Below w.heap.size w w' := by
  go_enter Tryz.func57, Tryz.ntmps57
  go_wp2
  exact bodyPost_ret (v := .tuple #[.agg #[.int .i64 0, .int .i64 0, .int .i64 0, .string ⟨#[]⟩, .slice none 0 0], .bool false]) (by simp [results, Tryz.results57, go_sem]) rfl ⟨rfl, (Below.refl _ _).alloc (Nat.le_refl _) _⟩

end Go.Proofs.YtededpnjijfieaaGreatDoor
