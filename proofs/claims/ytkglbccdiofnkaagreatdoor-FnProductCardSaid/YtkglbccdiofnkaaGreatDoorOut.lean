/-
The package's values turned into plain ones and handed back: 'doorArg', 'out'; 'ToNumber' of a number; 'doorFuncs'.
-/
import Derived.Test.YtkglbccdiofnkaaGreatDoorInner
namespace Go.Proofs.YtkglbccdiofnkaaGreatDoor
open Go.RowKit Go.Fl

set_option maxRecDepth 100000 in
set_option maxHeartbeats 1000000 in
theorem doorArg_num (n : Nat) (a b : ByteArray) (w : World) :
    Calls Tryz.prog 42 #[.agg #[.string ⟨#[]⟩, .float .f64 n, .string a, .slice none 0 0, .slice none 0 0, .bool false, .string b, .int .u8 1, .pointer none, .pointer none]] w
      fun e w' => e = .returned (.agg #[.int .i64 1, .float .f64 n, .string ⟨#[]⟩, .slice none 0 0]) ∧ Below w.heap.size w w' := by
  have hu59 := Tryz.underlying55
  have hu80 := Tryz.underlying71
  go_enter Tryz.func42, Tryz.ntmps42
  go_wp2
  refine bodyPost_ret (v := .agg #[.int .i64 1, .float .f64 n, .string ⟨#[]⟩, .slice none 0 0]) (by simp [results, Tryz.results42, go_sem]) rfl ⟨rfl, ?_⟩
  exact ((Below.refl _ _).alloc (Nat.le_refl _) _).alloc (by simp) _

set_option maxRecDepth 100000 in
set_option maxHeartbeats 1000000 in
theorem doorArg_bool (n : Nat) (a b : ByteArray) (w : World) :
    Calls Tryz.prog 42 #[.agg #[.string ⟨#[]⟩, .float .f64 n, .string a, .slice none 0 0, .slice none 0 0, .bool true, .string b, .int .u8 1, .pointer none, .pointer none]] w
      fun e w' => e = .returned (.agg #[.int .i64 3, .float .f64 n, .string ⟨#[]⟩, .slice none 0 0]) ∧ Below w.heap.size w w' := by
  have hu59 := Tryz.underlying55
  have hu80 := Tryz.underlying71
  go_enter Tryz.func42, Tryz.ntmps42
  go_wp2
  refine bodyPost_ret (v := .agg #[.int .i64 3, .float .f64 n, .string ⟨#[]⟩, .slice none 0 0]) (by simp [results, Tryz.results42, go_sem]) rfl ⟨rfl, ?_⟩
  exact ((Below.refl _ _).alloc (Nat.le_refl _) _).alloc (by simp) _

set_option maxRecDepth 100000 in
set_option maxHeartbeats 1000000 in
theorem doorArg_str (n : Nat) (a b : ByteArray) (t : Bool) (w : World) :
    Calls Tryz.prog 42 #[.agg #[.string ⟨#[]⟩, .float .f64 n, .string a, .slice none 0 0, .slice none 0 0, .bool t, .string b, .int .u8 2, .pointer none, .pointer none]] w
      fun e w' => e = .returned (.agg #[.int .i64 2, .float .f64 0, .string a, .slice none 0 0]) ∧ Below w.heap.size w w' := by
  have hu59 := Tryz.underlying55
  have hu80 := Tryz.underlying71
  go_enter Tryz.func42, Tryz.ntmps42
  go_wp2
  refine bodyPost_ret (v := .agg #[.int .i64 2, .float .f64 0, .string a, .slice none 0 0]) (by simp [results, Tryz.results42, go_sem]) rfl ⟨rfl, ?_⟩
  exact ((Below.refl _ _).alloc (Nat.le_refl _) _).alloc (by simp) _

set_option maxRecDepth 100000 in
set_option maxHeartbeats 1000000 in
theorem doorArg_err (n : Nat) (a b : ByteArray) (t : Bool) (w : World) :
    Calls Tryz.prog 42 #[.agg #[.string ⟨#[]⟩, .float .f64 n, .string a, .slice none 0 0, .slice none 0 0, .bool t, .string b, .int .u8 5, .pointer none, .pointer none]] w
      fun e w' => e = .returned (.agg #[.int .i64 4, .float .f64 0, .string a, .slice none 0 0]) ∧ Below w.heap.size w w' := by
  have hu59 := Tryz.underlying55
  have hu80 := Tryz.underlying71
  go_enter Tryz.func42, Tryz.ntmps42
  go_wp2
  refine bodyPost_ret (v := .agg #[.int .i64 4, .float .f64 0, .string a, .slice none 0 0]) (by simp [results, Tryz.results42, go_sem]) rfl ⟨rfl, ?_⟩
  exact ((Below.refl _ _).alloc (Nat.le_refl _) _).alloc (by simp) _

set_option maxRecDepth 100000 in
set_option maxHeartbeats 1000000 in
theorem doorArg_empty (n : Nat) (a b : ByteArray) (t : Bool) (w : World) :
    Calls Tryz.prog 42 #[.agg #[.string ⟨#[]⟩, .float .f64 n, .string a, .slice none 0 0, .slice none 0 0, .bool t, .string b, .int .u8 6, .pointer none, .pointer none]] w
      fun e w' => e = .returned (.agg #[.int .i64 0, .float .f64 0, .string ⟨#[]⟩, .slice none 0 0]) ∧ Below w.heap.size w w' := by
  have hu59 := Tryz.underlying55
  have hu80 := Tryz.underlying71
  go_enter Tryz.func42, Tryz.ntmps42
  go_wp2
  refine bodyPost_ret (v := .agg #[.int .i64 0, .float .f64 0, .string ⟨#[]⟩, .slice none 0 0]) (by simp [results, Tryz.results42, go_sem]) rfl ⟨rfl, ?_⟩
  exact ((Below.refl _ _).alloc (Nat.le_refl _) _).alloc (by simp) _

set_option maxRecDepth 100000 in
set_option maxHeartbeats 1000000 in
theorem out_one (k : Int) (n : Nat) (t : ByteArray) (w : World) :
    Calls Tryz.prog 28 #[.agg #[.int .i64 k, .float .f64 n, .string t, .slice none 0 0]] w
      fun e w' => e = .returned (.agg #[.int .i64 k, .float .f64 n, .string t, .slice none 0 0]) ∧ Below w.heap.size w w' := by
  have hu59 := Tryz.underlying55
  have hu53 := Tryz.underlying49
  go_enter Tryz.func28, Tryz.ntmps28
  go_wp2
  go_loop [19] (fun i => i = .int .i64 0) (fun _ => 0)
  case atStart => rfl
  case round =>
    subst hrel
    go_wp2
    refine bodyPost_ret (v := .agg #[.int .i64 k, .float .f64 n, .string t, .slice none 0 0]) (by simp [results, Tryz.results28, go_sem]) rfl ⟨rfl, ?_⟩
    exact (((Below.refl _ _).alloc (Nat.le_refl _) _).alloc (by simp) _).alloc (by simp; omega) _

set_option maxRecDepth 100000 in
set_option maxHeartbeats 1000000 in
theorem toNumber_num (x : Nat) (m : Int) (a b : ByteArray) (t : Bool) (w : World) (h : Sx x m) :
    Calls Tryz.prog 65 #[.agg #[.string ⟨#[]⟩, .float .f64 x, .string a, .slice none 0 0, .slice none 0 0, .bool t, .string b, .int .u8 1, .pointer none, .pointer none]] w
      fun e w' => ∃ y, Sx y m ∧ e = .returned (.agg #[.string ⟨#[]⟩, .float .f64 y, .string ⟨#[]⟩, .slice none 0 0, .slice none 0 0, .bool false, .string ⟨#[]⟩, .int .u8 1, .pointer none, .pointer none]) ∧ Below w.heap.size w w' := by
  have hu80 := Tryz.underlying71
  have HS := Lib.hid h
  clear h
  go_enter Tryz.func65, Tryz.ntmps65
  go_wp2_with (go_at_call 66; refine (newNum_any _ m _ HS.out).mono ?_; rintro e w1 ⟨y, hy, rfl, hb1⟩; obtain ⟨cb, fb, zb, kb⟩ := box_cells (heap_new2b _ _ _) hb1; have HY := Lib.hid hy; clear hy)
  refine bodyPost_ret (v := .agg #[.string ⟨#[]⟩, .float .f64 y, .string ⟨#[]⟩, .slice none 0 0, .slice none 0 0, .bool false, .string ⟨#[]⟩, .int .u8 1, .pointer none, .pointer none]) (by simp [results, Tryz.results65, go_sem, cb]) rfl ⟨y, HY.out, rfl, ?_⟩
  have pb := below_two hb1
  clear cb fb
  (repeat refine below_set1 ?_ _ _)
  exact pb

theorem doorFuncs_any (w : World) :
    Calls Tryz.prog 43 #[] w fun e w' => e = .returned (.pointer (some ⟨w.heap.size, 0, none⟩)) ∧ Below w.heap.size w w' := by
  go_enter Tryz.func43, Tryz.ntmps43
  go_wp2
  go_ret
  exact ⟨rfl, (Below.refl _ _).alloc (Nat.le_refl _) _⟩

end Go.Proofs.YtkglbccdiofnkaaGreatDoor
