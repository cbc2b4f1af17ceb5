/-
The package's makers of values: numbers, truths, texts, errors, nothing; a number as a number.
-/
import Derived.Test.YtkglbccdiofnkaaGreatDoorIn
namespace Go.Proofs.YtkglbccdiofnkaaGreatDoor
open Go.RowKit Go.Fl

theorem below_set0 {w w1 : World} (h : Below w.heap.size w w1) (j : Nat) (v : Value) : Below w.heap.size w (w1.setCell ⟨w.heap.size, j, none⟩ v) := h.setCell (p := ⟨w.heap.size, j, none⟩) (Nat.le_refl _) v

/-- The package's value that is no list and no matrix. -/
structure GA where
  num : Nat
  str : ByteArray
  bool : Bool
  err : ByteArray
  type : Int

theorem newErr_any (s t : ByteArray) (w : World) :
    Calls Tryz.prog 71 #[.string s, .string t] w fun e w' => e = .returned (.agg #[.string ⟨#[]⟩, .float .f64 0, .string s, .slice none 0 0, .slice none 0 0, .bool false, .string t, .int .u8 5, .pointer none, .pointer none]) ∧ Below w.heap.size w w' := by
  go_enter Tryz.func71, Tryz.ntmps71
  go_wp2
  refine bodyPost_ret (v := .agg #[.string ⟨#[]⟩, .float .f64 0, .string s, .slice none 0 0, .slice none 0 0, .bool false, .string t, .int .u8 5, .pointer none, .pointer none]) (by simp [results, Tryz.results71, go_sem]) rfl ⟨rfl, ?_⟩
  exact (Below.refl _ _).alloc (Nat.le_refl _) _

theorem newStr_any (s : ByteArray) (w : World) :
    Calls Tryz.prog 81 #[.string s] w fun e w' => e = .returned (.agg #[.string ⟨#[]⟩, .float .f64 0, .string s, .slice none 0 0, .slice none 0 0, .bool false, .string ⟨#[]⟩, .int .u8 2, .pointer none, .pointer none]) ∧ Below w.heap.size w w' := by
  go_enter Tryz.func81, Tryz.ntmps81
  go_wp2
  refine bodyPost_ret (v := .agg #[.string ⟨#[]⟩, .float .f64 0, .string s, .slice none 0 0, .slice none 0 0, .bool false, .string ⟨#[]⟩, .int .u8 2, .pointer none, .pointer none]) (by simp [results, Tryz.results81, go_sem]) rfl ⟨rfl, ?_⟩
  exact (Below.refl _ _).alloc (Nat.le_refl _) _

theorem newEmpty_any (w : World) :
    Calls Tryz.prog 157 #[] w fun e w' => e = .returned (.agg #[.string ⟨#[]⟩, .float .f64 0, .string ⟨#[]⟩, .slice none 0 0, .slice none 0 0, .bool false, .string ⟨#[]⟩, .int .u8 6, .pointer none, .pointer none]) ∧ Below w.heap.size w w' := by
  go_enter Tryz.func157, Tryz.ntmps157
  go_wp2
  refine bodyPost_ret (v := .agg #[.string ⟨#[]⟩, .float .f64 0, .string ⟨#[]⟩, .slice none 0 0, .slice none 0 0, .bool false, .string ⟨#[]⟩, .int .u8 6, .pointer none, .pointer none]) (by simp [results, Tryz.results157, go_sem]) rfl ⟨rfl, ?_⟩
  exact (Below.refl _ _).alloc (Nat.le_refl _) _

/-- The word of a truth. -/
def tw (b : Bool) : Nat := if b then 4607182418800017408 else 0
theorem Sx.tw (b : Bool) : Sx (tw b) (if b then 16 else 0) := by
  cases b
  · exact Sx.zero
  · exact Sx.one

theorem newBool_any (b : Bool) (w : World) :
    Calls Tryz.prog 156 #[.bool b] w fun e w' => e = .returned (.agg #[.string ⟨#[]⟩, .float .f64 (tw b), .string ⟨#[]⟩, .slice none 0 0, .slice none 0 0, .bool true, .string ⟨#[]⟩, .int .u8 1, .pointer none, .pointer none]) ∧ Below w.heap.size w w' := by
  have e1 : tw true = 4607182418800017408 := rfl
  have e2 : tw false = 0 := rfl
  cases b
  · rw [e2]
    go_enter Tryz.func156, Tryz.ntmps156
    go_wp2
    refine bodyPost_ret (v := .agg #[.string ⟨#[]⟩, .float .f64 0, .string ⟨#[]⟩, .slice none 0 0, .slice none 0 0, .bool true, .string ⟨#[]⟩, .int .u8 1, .pointer none, .pointer none]) (by simp [results, Tryz.results156, go_sem]) rfl ⟨rfl, ?_⟩
    exact (Below.refl _ _).alloc (Nat.le_refl _) _
  · rw [e1]
    go_enter Tryz.func156, Tryz.ntmps156
    go_wp2
    refine bodyPost_ret (v := .agg #[.string ⟨#[]⟩, .float .f64 4607182418800017408, .string ⟨#[]⟩, .slice none 0 0, .slice none 0 0, .bool true, .string ⟨#[]⟩, .int .u8 1, .pointer none, .pointer none]) (by simp [results, Tryz.results156, go_sem]) rfl ⟨rfl, ?_⟩
    exact (Below.refl _ _).alloc (Nat.le_refl _) _

/-- 'newNumberFormulaArg' at a finite number. -/
theorem newNum_any (x : Nat) (m : Int) (w : World) (h : Sx x m) :
    Calls Tryz.prog 66 #[.float .f64 x] w fun e w' => ∃ y, Sx y m ∧ e = .returned (.agg #[.string ⟨#[]⟩, .float .f64 y, .string ⟨#[]⟩, .slice none 0 0, .slice none 0 0, .bool false, .string ⟨#[]⟩, .int .u8 1, .pointer none, .pointer none]) ∧ Below w.heap.size w w' := by
  have h1 : (FloatKind.f64.format.order x x != some .eq) = false := (Sx.ne_ h h).trans (by simp)
  by_cases h0 : m = 0
  · have h2 : (FloatKind.f64.format.order x 0 == some .eq) = true := (Sx.eq_ h Sx.zero).trans (by simp [h0])
    have HS : Hid (Sx 0 m) := by rw [h0]; exact Sx.zero
    clear h0 h
    go_enter Tryz.func66, Tryz.ntmps66
    go_wp2
    refine bodyPost_ret (v := .agg #[.string ⟨#[]⟩, .float .f64 0, .string ⟨#[]⟩, .slice none 0 0, .slice none 0 0, .bool false, .string ⟨#[]⟩, .int .u8 1, .pointer none, .pointer none]) (by simp [results, Tryz.results66, go_sem]) rfl ⟨0, HS.out, rfl, ?_⟩
    exact (Below.refl _ _).alloc (Nat.le_refl _) _
  · have h2 : (FloatKind.f64.format.order x 0 == some .eq) = false := (Sx.eq_ h Sx.zero).trans (by simp [h0])
    have HS := Lib.hid h
    clear h0 h
    go_enter Tryz.func66, Tryz.ntmps66
    go_wp2
    refine bodyPost_ret (v := .agg #[.string ⟨#[]⟩, .float .f64 x, .string ⟨#[]⟩, .slice none 0 0, .slice none 0 0, .bool false, .string ⟨#[]⟩, .int .u8 1, .pointer none, .pointer none]) (by simp [results, Tryz.results66, go_sem]) rfl ⟨x, HS.out, rfl, ?_⟩
    exact (Below.refl _ _).alloc (Nat.le_refl _) _

end Go.Proofs.YtkglbccdiofnkaaGreatDoor
