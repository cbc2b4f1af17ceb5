/-
Which parts of the reference do not know the function ISODD.
-/
import Derived.Test.YtededpnjijfieaaGreatDoorEvery
namespace Go.Proofs.YtededpnjijfieaaGreatDoor
open Go.RowKit

set_option maxRecDepth 100000 in
set_option maxHeartbeats 2000000 in
theorem fitsNumbers_Isodd (vs : List FV) (v : Value) (w : World) (hr : Row w w.heap.size 5 v (vs.map FV.list))
    (hV : ∀ W, Row W W.heap.size 5 v (vs.map FV.list) → Calls Tryz.prog 160 #[v, .func (.func 161) #[] #[]] W fun e w' => (∃ b, e = .returned (.bool b)) ∧ Below W.heap.size W w') :
    Calls Tryz.prog 78 #[.string ⟨#[73, 83, 79, 68, 68]⟩, v] w fun e w' => e = .returned (.tuple #[.bool false, .bool false]) ∧ Below w.heap.size w w' := by
  have HV := Lib.hid hV
  have HR := Lib.hid hr
  obtain ⟨A, c, rfl⟩ : ∃ A c, v = .slice A vs.length c := by
    obtain ⟨A, c, h, _⟩ := hr
    exact ⟨A, c, by rw [List.length_map] at h; exact h⟩
  clear hr hV
  go_enter Tryz.func78, Tryz.ntmps78
  go_wp2_with (go_at_call 160; refine (HV.out _ HR.out).mono ?_; rintro e w1 ⟨⟨b, rfl⟩, hb1⟩)
  go_ret2
  exact ⟨rfl, hb1⟩

set_option maxRecDepth 100000 in
set_option maxHeartbeats 2000000 in
theorem fitsTexts_Isodd (A : Option Addr) (n c : Nat) (w : World) :
    Calls Tryz.prog 79 #[.string ⟨#[73, 83, 79, 68, 68]⟩, .slice A n c] w fun e w' => e = .returned (.tuple #[.bool false, .bool false]) ∧ Below w.heap.size w w' := by
  go_enter Tryz.func79, Tryz.ntmps79
  go_wp2
  go_ret2
  exact ⟨rfl, Below.refl _ _⟩

set_option maxRecDepth 100000 in
set_option maxHeartbeats 2000000 in
theorem stat_Isodd (v : Value) (w : World) :
    Calls Tryz.prog 55 #[.string ⟨#[73, 83, 79, 68, 68]⟩, v] w fun e w' => e = .returned (.tuple #[.agg #[.int .i64 0, .int .i64 0, .int .i64 0, .string ⟨#[]⟩, .slice none 0 0], .bool false]) ∧ Below w.heap.size w w' := by
  go_enter Tryz.func55, Tryz.ntmps55
  go_wp2
  exact bodyPost_ret (v := .tuple #[.agg #[.int .i64 0, .int .i64 0, .int .i64 0, .string ⟨#[]⟩, .slice none 0 0], .bool false]) (by simp [results, Tryz.results55, go_sem]) rfl ⟨rfl, (Below.refl _ _).alloc (Nat.le_refl _) _⟩

set_option maxRecDepth 100000 in
set_option maxHeartbeats 2000000 in
theorem criteria_Isodd (v : Value) (w : World) :
    Calls Tryz.prog 56 #[.string ⟨#[73, 83, 79, 68, 68]⟩, v] w fun e w' => e = .returned (.tuple #[.agg #[.int .i64 0, .int .i64 0, .int .i64 0, .string ⟨#[]⟩, .slice none 0 0], .bool false]) ∧ Below w.heap.size w w' := by
  go_enter Tryz.func56, Tryz.ntmps56
  go_wp2
  exact bodyPost_ret (v := .tuple #[.agg #[.int .i64 0, .int .i64 0, .int .i64 0, .string ⟨#[]⟩, .slice none 0 0], .bool false]) (by simp [results, Tryz.results56, go_sem]) rfl ⟨rfl, (Below.refl _ _).alloc (Nat.le_refl _) _⟩

set_option maxRecDepth 100000 in
set_option maxHeartbeats 2000000 in
theorem lookup_Isodd (v : Value) (w : World) :
    Calls Tryz.prog 57 #[.string ⟨#[73, 83, 79, 68, 68]⟩, v] w fun e w' => e = .returned (.tuple #[.agg #[.int .i64 0, .int .i64 0, .int .i64 0, .string ⟨#[]⟩, .slice none 0 0], .bool false]) ∧ Below w.heap.size w w' := by
  go_enter Tryz.func57, Tryz.ntmps57
  go_wp2
  exact bodyPost_ret (v := .tuple #[.agg #[.int .i64 0, .int .i64 0, .int .i64 0, .string ⟨#[]⟩, .slice none 0 0], .bool false]) (by simp [results, Tryz.results57, go_sem]) rfl ⟨rfl, (Below.refl _ _).alloc (Nat.le_refl _) _⟩

set_option maxRecDepth 100000 in
set_option maxHeartbeats 2000000 in
theorem callMath_Isodd (v : Value) (w : World) :
    Calls Tryz.prog 58 #[.string ⟨#[73, 83, 79, 68, 68]⟩, v] w fun e w' => e = .returned (.tuple #[.agg #[.int .i64 0, .int .i64 0, .int .i64 0, .string ⟨#[]⟩, .slice none 0 0], .bool false]) ∧ Below w.heap.size w w' := by
  go_enter Tryz.func58, Tryz.ntmps58
  go_wp2
  exact bodyPost_ret (v := .tuple #[.agg #[.int .i64 0, .int .i64 0, .int .i64 0, .string ⟨#[]⟩, .slice none 0 0], .bool false]) (by simp [results, Tryz.results58, go_sem]) rfl ⟨rfl, (Below.refl _ _).alloc (Nat.le_refl _) _⟩

set_option maxRecDepth 100000 in
set_option maxHeartbeats 2000000 in
theorem callText_Isodd (v : Value) (w : World) :
    Calls Tryz.prog 59 #[.string ⟨#[73, 83, 79, 68, 68]⟩, v] w fun e w' => e = .returned (.tuple #[.agg #[.int .i64 0, .int .i64 0, .int .i64 0, .string ⟨#[]⟩, .slice none 0 0], .bool false]) ∧ Below w.heap.size w w' := by
  go_enter Tryz.func59, Tryz.ntmps59
  go_wp2
  exact bodyPost_ret (v := .tuple #[.agg #[.int .i64 0, .int .i64 0, .int .i64 0, .string ⟨#[]⟩, .slice none 0 0], .bool false]) (by simp [results, Tryz.results59, go_sem]) rfl ⟨rfl, (Below.refl _ _).alloc (Nat.le_refl _) _⟩

set_option maxRecDepth 100000 in
set_option maxHeartbeats 2000000 in
theorem callLogic_Isodd (v : Value) (w : World) :
    Calls Tryz.prog 60 #[.string ⟨#[73, 83, 79, 68, 68]⟩, v] w fun e w' => e = .returned (.tuple #[.agg #[.int .i64 0, .int .i64 0, .int .i64 0, .string ⟨#[]⟩, .slice none 0 0], .bool false]) ∧ Below w.heap.size w w' := by
  go_enter Tryz.func60, Tryz.ntmps60
  go_wp2
  exact bodyPost_ret (v := .tuple #[.agg #[.int .i64 0, .int .i64 0, .int .i64 0, .string ⟨#[]⟩, .slice none 0 0], .bool false]) (by simp [results, Tryz.results60, go_sem]) rfl ⟨rfl, (Below.refl _ _).alloc (Nat.le_refl _) _⟩

end Go.Proofs.YtededpnjijfieaaGreatDoor
