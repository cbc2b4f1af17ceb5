/-
'Call' of the reference: what the first part that knows the name says; nothing, if it does not fit.
-/
import Derived.Test.YtkglbccdiofnkaaGreatDoorInner
namespace Go.Proofs.YtkglbccdiofnkaaGreatDoor
open Go.RowKit

/-- A block that was known ahead of one call, and is not written by the next one. -/
theorem box_later {w1 w2 : World} {g : Nat} {cs : Array Value} {T : TypeId} {o : Obj} (hg : w1.heap[g]? = some (.cells cs T)) (hb : Below (w1.alloc o).heap.size (w1.alloc o) w2) :
    (∀ j, w2.cell? ⟨g, j, none⟩ = cs[j]?) ∧ (∀ j, w2.frozen? ⟨g, j, none⟩ = false) ∧ g < w2.heap.size ∧ w2.heap[g]? = some (.cells cs T) :=
  box_cells ((Below.heap_alloc w1 o g (heap_lt hg)).trans hg) hb

/-- A part of the reference does not know the name. -/
def Unknown (f : Nat) (name : ByteArray) (v : Value) (w : World) : Prop :=
  ∀ W, Below w.heap.size w W → Calls Tryz.prog f #[.string name, v] W fun e w' => e = .returned (.tuple #[.agg #[.int .i64 0, .int .i64 0, .int .i64 0, .string ⟨#[]⟩, .slice none 0 0], .bool false]) ∧ Below W.heap.size W w'

theorem below_box {B : Nat} {w W w1 : World} {o : Obj} (h : Below B w W) (hB : B ≤ W.heap.size) (h1 : Below (W.alloc o).heap.size (W.alloc o) w1) : Below B w w1 :=
  (h.alloc hB o).trans (h1.mono (by simp; omega))
theorem below_next {B : Nat} {w W w1 : World} (h : Below B w W) (hB : B ≤ W.heap.size) (h1 : Below W.heap.size W w1) : Below B w w1 := h.trans (h1.mono hB)

set_option maxRecDepth 100000 in
set_option maxHeartbeats 2000000 in
theorem callOver_no (name : ByteArray) (v : Value) (w : World)
    (hFits : ∀ W, Below w.heap.size w W → Calls Tryz.prog 54 #[.string name, v] W fun e w' => e = .returned (.bool false) ∧ Below W.heap.size W w') :
    Calls Tryz.prog 39 #[.string name, v, v] w fun e w' => e = .returned (.agg #[.int .i64 6, .int .i64 0, .int .i64 0, .string ⟨#[]⟩, .slice none 0 0]) ∧ Below w.heap.size w w' := by
  have HF := Lib.hid hFits
  clear hFits
  go_enter Tryz.func39, Tryz.ntmps39
  go_wp2_with (first
    | (go_at_call 54; refine (HF.out _ ((Below.refl _ _).alloc (Nat.le_refl _) _)).mono ?_; rintro e w1 ⟨rfl, hb1⟩; obtain ⟨c1, f1, z1, k1⟩ := box_cells (heap_new1 _ _) hb1)
    | (go_at_call 34; refine (doubt_any _).mono ?_; rintro e w2 ⟨rfl, hb2⟩; obtain ⟨c2, f2, z2, k2⟩ := box_cells k1 hb2; clear c1 f1))
  refine bodyPost_ret (v := .agg #[.int .i64 6, .int .i64 0, .int .i64 0, .string ⟨#[]⟩, .slice none 0 0]) (by simp [results, Tryz.results39, go_sem, c2]) rfl ⟨rfl, ?_⟩
  have pb : Below w.heap.size w w2 := below_next (below_one hb1) (below_one hb1).size hb2
  clear c2 f2
  (repeat refine below_set0 ?_ _ _)
  exact pb

set_option maxRecDepth 100000 in
set_option maxHeartbeats 4000000 in
theorem callOver_Stat (name : ByteArray) (v : Value) (w : World) (k n d : Int) (t : ByteArray) (A : Option Addr) (l c : Nat)
    (hFits : ∀ W, Below w.heap.size w W → Calls Tryz.prog 54 #[.string name, v] W fun e w' => e = .returned (.bool true) ∧ Below W.heap.size W w')
    (hHit : ∀ W, Below w.heap.size w W → Calls Tryz.prog 55 #[.string name, v] W fun e w' => e = .returned (.tuple #[.agg #[.int .i64 k, .int .i64 n, .int .i64 d, .string t, .slice A l c], .bool true]) ∧ Below W.heap.size W w') :
    Calls Tryz.prog 39 #[.string name, v, v] w fun e w' => e = .returned (.agg #[.int .i64 k, .int .i64 n, .int .i64 d, .string t, .slice A l c]) ∧ Below w.heap.size w w' := by
  have HF := Lib.hid hFits
  have HH := Lib.hid hHit
  clear hFits hHit
  go_enter Tryz.func39, Tryz.ntmps39
  go_wp2_with (first
    | (go_at_call 54; refine (HF.out _ ((Below.refl _ _).alloc (Nat.le_refl _) _)).mono ?_; rintro e w1 ⟨rfl, hb1⟩; obtain ⟨c1, f1, z1, k1⟩ := box_cells (heap_new1 _ _) hb1; have pb1 := below_one hb1)
    | (go_at_call 55; refine (HH.out _ pb1).mono ?_; rintro e w2 ⟨rfl, hb2⟩; obtain ⟨c2, f2, z2, k2⟩ := box_cells k1 hb2; have pb2 := below_next pb1 pb1.size hb2; clear c1 f1))
  refine bodyPost_ret (v := .agg #[.int .i64 k, .int .i64 n, .int .i64 d, .string t, .slice A l c]) (by simp [results, Tryz.results39, go_sem, c2, z2]) rfl ⟨rfl, ?_⟩
  clear c2 f2
  refine Below.alloc ?_ (by have h := pb2.size; simpa [World.setCell] using h) _
  (repeat refine below_set0 ?_ _ _)
  exact pb2

set_option maxRecDepth 100000 in
set_option maxHeartbeats 4000000 in
theorem callOver_Lookup (name : ByteArray) (v : Value) (w : World) (k n d : Int) (t : ByteArray) (A : Option Addr) (l c : Nat)
    (hFits : ∀ W, Below w.heap.size w W → Calls Tryz.prog 54 #[.string name, v] W fun e w' => e = .returned (.bool true) ∧ Below W.heap.size W w')
    (h0 : Unknown 55 name v w)
    (h1 : Unknown 56 name v w)
    (hHit : ∀ W, Below w.heap.size w W → Calls Tryz.prog 57 #[.string name, v] W fun e w' => e = .returned (.tuple #[.agg #[.int .i64 k, .int .i64 n, .int .i64 d, .string t, .slice A l c], .bool true]) ∧ Below W.heap.size W w') :
    Calls Tryz.prog 39 #[.string name, v, v] w fun e w' => e = .returned (.agg #[.int .i64 k, .int .i64 n, .int .i64 d, .string t, .slice A l c]) ∧ Below w.heap.size w w' := by
  have HF := Lib.hid hFits
  have HH := Lib.hid hHit
  have H0 := Lib.hid h0
  have H1 := Lib.hid h1
  clear hFits hHit h0 h1
  go_enter Tryz.func39, Tryz.ntmps39
  go_wp2_with (first
    | (go_at_call 54; refine (HF.out _ ((Below.refl _ _).alloc (Nat.le_refl _) _)).mono ?_; rintro e w1 ⟨rfl, hb1⟩; obtain ⟨c1, f1, z1, k1⟩ := box_cells (heap_new1 _ _) hb1; have pb1 := below_one hb1)
    | (go_at_call 55; refine (H0.out _ pb1).mono ?_; rintro e w2 ⟨rfl, hb2⟩; obtain ⟨c2, f2, z2, k2⟩ := box_cells k1 hb2; have pb2 := below_next pb1 pb1.size hb2; clear c1 f1)
    | (go_at_call 56; refine (H1.out _ ((pb2).alloc pb2.size _)).mono ?_; rintro e w3 ⟨rfl, hb3⟩; obtain ⟨c3, f3, z3, k3⟩ := box_later k2 hb3; have pb3 := below_box pb2 pb2.size hb3; clear c2 f2)
    | (go_at_call 57; refine (HH.out _ ((pb3).alloc pb3.size _)).mono ?_; rintro e w4 ⟨rfl, hb4⟩; obtain ⟨c4, f4, z4, k4⟩ := box_later k3 hb4; have pb4 := below_box pb3 pb3.size hb4; clear c3 f3))
  refine bodyPost_ret (v := .agg #[.int .i64 k, .int .i64 n, .int .i64 d, .string t, .slice A l c]) (by simp [results, Tryz.results39, go_sem, c4, z4]) rfl ⟨rfl, ?_⟩
  clear c4 f4
  refine Below.alloc ?_ (by have h := pb4.size; simpa [World.setCell] using h) _
  (repeat refine below_set0 ?_ _ _)
  exact pb4

set_option maxRecDepth 100000 in
set_option maxHeartbeats 4000000 in
theorem callOver_CallMath (name : ByteArray) (v : Value) (w : World) (k n d : Int) (t : ByteArray) (A : Option Addr) (l c : Nat)
    (hFits : ∀ W, Below w.heap.size w W → Calls Tryz.prog 54 #[.string name, v] W fun e w' => e = .returned (.bool true) ∧ Below W.heap.size W w')
    (h0 : Unknown 55 name v w)
    (h1 : Unknown 56 name v w)
    (h2 : Unknown 57 name v w)
    (hHit : ∀ W, Below w.heap.size w W → Calls Tryz.prog 58 #[.string name, v] W fun e w' => e = .returned (.tuple #[.agg #[.int .i64 k, .int .i64 n, .int .i64 d, .string t, .slice A l c], .bool true]) ∧ Below W.heap.size W w') :
    Calls Tryz.prog 39 #[.string name, v, v] w fun e w' => e = .returned (.agg #[.int .i64 k, .int .i64 n, .int .i64 d, .string t, .slice A l c]) ∧ Below w.heap.size w w' := by
  have HF := Lib.hid hFits
  have HH := Lib.hid hHit
  have H0 := Lib.hid h0
  have H1 := Lib.hid h1
  have H2 := Lib.hid h2
  clear hFits hHit h0 h1 h2
  go_enter Tryz.func39, Tryz.ntmps39
  go_wp2_with (first
    | (go_at_call 54; refine (HF.out _ ((Below.refl _ _).alloc (Nat.le_refl _) _)).mono ?_; rintro e w1 ⟨rfl, hb1⟩; obtain ⟨c1, f1, z1, k1⟩ := box_cells (heap_new1 _ _) hb1; have pb1 := below_one hb1)
    | (go_at_call 55; refine (H0.out _ pb1).mono ?_; rintro e w2 ⟨rfl, hb2⟩; obtain ⟨c2, f2, z2, k2⟩ := box_cells k1 hb2; have pb2 := below_next pb1 pb1.size hb2; clear c1 f1)
    | (go_at_call 56; refine (H1.out _ ((pb2).alloc pb2.size _)).mono ?_; rintro e w3 ⟨rfl, hb3⟩; obtain ⟨c3, f3, z3, k3⟩ := box_later k2 hb3; have pb3 := below_box pb2 pb2.size hb3; clear c2 f2)
    | (go_at_call 57; refine (H2.out _ ((pb3).alloc pb3.size _)).mono ?_; rintro e w4 ⟨rfl, hb4⟩; obtain ⟨c4, f4, z4, k4⟩ := box_later k3 hb4; have pb4 := below_box pb3 pb3.size hb4; clear c3 f3)
    | (go_at_call 58; refine (HH.out _ ((pb4).alloc pb4.size _)).mono ?_; rintro e w5 ⟨rfl, hb5⟩; obtain ⟨c5, f5, z5, k5⟩ := box_later k4 hb5; have pb5 := below_box pb4 pb4.size hb5; clear c4 f4))
  refine bodyPost_ret (v := .agg #[.int .i64 k, .int .i64 n, .int .i64 d, .string t, .slice A l c]) (by simp [results, Tryz.results39, go_sem, c5, z5]) rfl ⟨rfl, ?_⟩
  clear c5 f5
  refine Below.alloc ?_ (by have h := pb5.size; simpa [World.setCell] using h) _
  (repeat refine below_set0 ?_ _ _)
  exact pb5

set_option maxRecDepth 100000 in
set_option maxHeartbeats 4000000 in
theorem callOver_CallText (name : ByteArray) (v : Value) (w : World) (k n d : Int) (t : ByteArray) (A : Option Addr) (l c : Nat)
    (hFits : ∀ W, Below w.heap.size w W → Calls Tryz.prog 54 #[.string name, v] W fun e w' => e = .returned (.bool true) ∧ Below W.heap.size W w')
    (h0 : Unknown 55 name v w)
    (h1 : Unknown 56 name v w)
    (h2 : Unknown 57 name v w)
    (h3 : Unknown 58 name v w)
    (hHit : ∀ W, Below w.heap.size w W → Calls Tryz.prog 59 #[.string name, v] W fun e w' => e = .returned (.tuple #[.agg #[.int .i64 k, .int .i64 n, .int .i64 d, .string t, .slice A l c], .bool true]) ∧ Below W.heap.size W w') :
    Calls Tryz.prog 39 #[.string name, v, v] w fun e w' => e = .returned (.agg #[.int .i64 k, .int .i64 n, .int .i64 d, .string t, .slice A l c]) ∧ Below w.heap.size w w' := by
  have HF := Lib.hid hFits
  have HH := Lib.hid hHit
  have H0 := Lib.hid h0
  have H1 := Lib.hid h1
  have H2 := Lib.hid h2
  have H3 := Lib.hid h3
  clear hFits hHit h0 h1 h2 h3
  go_enter Tryz.func39, Tryz.ntmps39
  go_wp2_with (first
    | (go_at_call 54; refine (HF.out _ ((Below.refl _ _).alloc (Nat.le_refl _) _)).mono ?_; rintro e w1 ⟨rfl, hb1⟩; obtain ⟨c1, f1, z1, k1⟩ := box_cells (heap_new1 _ _) hb1; have pb1 := below_one hb1)
    | (go_at_call 55; refine (H0.out _ pb1).mono ?_; rintro e w2 ⟨rfl, hb2⟩; obtain ⟨c2, f2, z2, k2⟩ := box_cells k1 hb2; have pb2 := below_next pb1 pb1.size hb2; clear c1 f1)
    | (go_at_call 56; refine (H1.out _ ((pb2).alloc pb2.size _)).mono ?_; rintro e w3 ⟨rfl, hb3⟩; obtain ⟨c3, f3, z3, k3⟩ := box_later k2 hb3; have pb3 := below_box pb2 pb2.size hb3; clear c2 f2)
    | (go_at_call 57; refine (H2.out _ ((pb3).alloc pb3.size _)).mono ?_; rintro e w4 ⟨rfl, hb4⟩; obtain ⟨c4, f4, z4, k4⟩ := box_later k3 hb4; have pb4 := below_box pb3 pb3.size hb4; clear c3 f3)
    | (go_at_call 58; refine (H3.out _ ((pb4).alloc pb4.size _)).mono ?_; rintro e w5 ⟨rfl, hb5⟩; obtain ⟨c5, f5, z5, k5⟩ := box_later k4 hb5; have pb5 := below_box pb4 pb4.size hb5; clear c4 f4)
    | (go_at_call 59; refine (HH.out _ ((pb5).alloc pb5.size _)).mono ?_; rintro e w6 ⟨rfl, hb6⟩; obtain ⟨c6, f6, z6, k6⟩ := box_later k5 hb6; have pb6 := below_box pb5 pb5.size hb6; clear c5 f5))
  refine bodyPost_ret (v := .agg #[.int .i64 k, .int .i64 n, .int .i64 d, .string t, .slice A l c]) (by simp [results, Tryz.results39, go_sem, c6, z6]) rfl ⟨rfl, ?_⟩
  clear c6 f6
  refine Below.alloc ?_ (by have h := pb6.size; simpa [World.setCell] using h) _
  (repeat refine below_set0 ?_ _ _)
  exact pb6

set_option maxRecDepth 100000 in
set_option maxHeartbeats 4000000 in
theorem callOver_CallLogic (name : ByteArray) (v : Value) (w : World) (k n d : Int) (t : ByteArray) (A : Option Addr) (l c : Nat)
    (hFits : ∀ W, Below w.heap.size w W → Calls Tryz.prog 54 #[.string name, v] W fun e w' => e = .returned (.bool true) ∧ Below W.heap.size W w')
    (h0 : Unknown 55 name v w)
    (h1 : Unknown 56 name v w)
    (h2 : Unknown 57 name v w)
    (h3 : Unknown 58 name v w)
    (h4 : Unknown 59 name v w)
    (hHit : ∀ W, Below w.heap.size w W → Calls Tryz.prog 60 #[.string name, v] W fun e w' => e = .returned (.tuple #[.agg #[.int .i64 k, .int .i64 n, .int .i64 d, .string t, .slice A l c], .bool true]) ∧ Below W.heap.size W w') :
    Calls Tryz.prog 39 #[.string name, v, v] w fun e w' => e = .returned (.agg #[.int .i64 k, .int .i64 n, .int .i64 d, .string t, .slice A l c]) ∧ Below w.heap.size w w' := by
  have HF := Lib.hid hFits
  have HH := Lib.hid hHit
  have H0 := Lib.hid h0
  have H1 := Lib.hid h1
  have H2 := Lib.hid h2
  have H3 := Lib.hid h3
  have H4 := Lib.hid h4
  clear hFits hHit h0 h1 h2 h3 h4
  go_enter Tryz.func39, Tryz.ntmps39
  go_wp2_with (first
    | (go_at_call 54; refine (HF.out _ ((Below.refl _ _).alloc (Nat.le_refl _) _)).mono ?_; rintro e w1 ⟨rfl, hb1⟩; obtain ⟨c1, f1, z1, k1⟩ := box_cells (heap_new1 _ _) hb1; have pb1 := below_one hb1)
    | (go_at_call 55; refine (H0.out _ pb1).mono ?_; rintro e w2 ⟨rfl, hb2⟩; obtain ⟨c2, f2, z2, k2⟩ := box_cells k1 hb2; have pb2 := below_next pb1 pb1.size hb2; clear c1 f1)
    | (go_at_call 56; refine (H1.out _ ((pb2).alloc pb2.size _)).mono ?_; rintro e w3 ⟨rfl, hb3⟩; obtain ⟨c3, f3, z3, k3⟩ := box_later k2 hb3; have pb3 := below_box pb2 pb2.size hb3; clear c2 f2)
    | (go_at_call 57; refine (H2.out _ ((pb3).alloc pb3.size _)).mono ?_; rintro e w4 ⟨rfl, hb4⟩; obtain ⟨c4, f4, z4, k4⟩ := box_later k3 hb4; have pb4 := below_box pb3 pb3.size hb4; clear c3 f3)
    | (go_at_call 58; refine (H3.out _ ((pb4).alloc pb4.size _)).mono ?_; rintro e w5 ⟨rfl, hb5⟩; obtain ⟨c5, f5, z5, k5⟩ := box_later k4 hb5; have pb5 := below_box pb4 pb4.size hb5; clear c4 f4)
    | (go_at_call 59; refine (H4.out _ ((pb5).alloc pb5.size _)).mono ?_; rintro e w6 ⟨rfl, hb6⟩; obtain ⟨c6, f6, z6, k6⟩ := box_later k5 hb6; have pb6 := below_box pb5 pb5.size hb6; clear c5 f5)
    | (go_at_call 60; refine (HH.out _ ((pb6).alloc pb6.size _)).mono ?_; rintro e w7 ⟨rfl, hb7⟩; obtain ⟨c7, f7, z7, k7⟩ := box_later k6 hb7; have pb7 := below_box pb6 pb6.size hb7; clear c6 f6))
  refine bodyPost_ret (v := .agg #[.int .i64 k, .int .i64 n, .int .i64 d, .string t, .slice A l c]) (by simp [results, Tryz.results39, go_sem, c7, z7]) rfl ⟨rfl, ?_⟩
  clear c7 f7
  refine Below.alloc ?_ (by have h := pb7.size; simpa [World.setCell] using h) _
  (repeat refine below_set0 ?_ _ _)
  exact pb7

set_option maxRecDepth 100000 in
set_option maxHeartbeats 4000000 in
theorem callOver_CallInfo (name : ByteArray) (v : Value) (w : World) (k n d : Int) (t : ByteArray) (A : Option Addr) (l c : Nat)
    (hFits : ∀ W, Below w.heap.size w W → Calls Tryz.prog 54 #[.string name, v] W fun e w' => e = .returned (.bool true) ∧ Below W.heap.size W w')
    (h0 : Unknown 55 name v w)
    (h1 : Unknown 56 name v w)
    (h2 : Unknown 57 name v w)
    (h3 : Unknown 58 name v w)
    (h4 : Unknown 59 name v w)
    (h5 : Unknown 60 name v w)
    (hHit : ∀ W, Below w.heap.size w W → Calls Tryz.prog 61 #[.string name, v] W fun e w' => e = .returned (.tuple #[.agg #[.int .i64 k, .int .i64 n, .int .i64 d, .string t, .slice A l c], .bool true]) ∧ Below W.heap.size W w') :
    Calls Tryz.prog 39 #[.string name, v, v] w fun e w' => e = .returned (.agg #[.int .i64 k, .int .i64 n, .int .i64 d, .string t, .slice A l c]) ∧ Below w.heap.size w w' := by
  have HF := Lib.hid hFits
  have HH := Lib.hid hHit
  have H0 := Lib.hid h0
  have H1 := Lib.hid h1
  have H2 := Lib.hid h2
  have H3 := Lib.hid h3
  have H4 := Lib.hid h4
  have H5 := Lib.hid h5
  clear hFits hHit h0 h1 h2 h3 h4 h5
  go_enter Tryz.func39, Tryz.ntmps39
  go_wp2_with (first
    | (go_at_call 54; refine (HF.out _ ((Below.refl _ _).alloc (Nat.le_refl _) _)).mono ?_; rintro e w1 ⟨rfl, hb1⟩; obtain ⟨c1, f1, z1, k1⟩ := box_cells (heap_new1 _ _) hb1; have pb1 := below_one hb1)
    | (go_at_call 55; refine (H0.out _ pb1).mono ?_; rintro e w2 ⟨rfl, hb2⟩; obtain ⟨c2, f2, z2, k2⟩ := box_cells k1 hb2; have pb2 := below_next pb1 pb1.size hb2; clear c1 f1)
    | (go_at_call 56; refine (H1.out _ ((pb2).alloc pb2.size _)).mono ?_; rintro e w3 ⟨rfl, hb3⟩; obtain ⟨c3, f3, z3, k3⟩ := box_later k2 hb3; have pb3 := below_box pb2 pb2.size hb3; clear c2 f2)
    | (go_at_call 57; refine (H2.out _ ((pb3).alloc pb3.size _)).mono ?_; rintro e w4 ⟨rfl, hb4⟩; obtain ⟨c4, f4, z4, k4⟩ := box_later k3 hb4; have pb4 := below_box pb3 pb3.size hb4; clear c3 f3)
    | (go_at_call 58; refine (H3.out _ ((pb4).alloc pb4.size _)).mono ?_; rintro e w5 ⟨rfl, hb5⟩; obtain ⟨c5, f5, z5, k5⟩ := box_later k4 hb5; have pb5 := below_box pb4 pb4.size hb5; clear c4 f4)
    | (go_at_call 59; refine (H4.out _ ((pb5).alloc pb5.size _)).mono ?_; rintro e w6 ⟨rfl, hb6⟩; obtain ⟨c6, f6, z6, k6⟩ := box_later k5 hb6; have pb6 := below_box pb5 pb5.size hb6; clear c5 f5)
    | (go_at_call 60; refine (H5.out _ ((pb6).alloc pb6.size _)).mono ?_; rintro e w7 ⟨rfl, hb7⟩; obtain ⟨c7, f7, z7, k7⟩ := box_later k6 hb7; have pb7 := below_box pb6 pb6.size hb7; clear c6 f6)
    | (go_at_call 61; refine (HH.out _ ((pb7).alloc pb7.size _)).mono ?_; rintro e w8 ⟨rfl, hb8⟩; obtain ⟨c8, f8, z8, k8⟩ := box_later k7 hb8; have pb8 := below_box pb7 pb7.size hb8; clear c7 f7))
  refine bodyPost_ret (v := .agg #[.int .i64 k, .int .i64 n, .int .i64 d, .string t, .slice A l c]) (by simp [results, Tryz.results39, go_sem, c8, z8]) rfl ⟨rfl, ?_⟩
  clear c8 f8
  refine Below.alloc ?_ (by have h := pb8.size; simpa [World.setCell] using h) _
  (repeat refine below_set0 ?_ _ _)
  exact pb8

set_option maxRecDepth 100000 in
theorem call_any (name : ByteArray) (v : Value) (w : World) (k n d : Int) (t : ByteArray) (A : Option Addr) (l c : Nat)
    (hO : ∀ W, Below w.heap.size w W → Calls Tryz.prog 39 #[.string name, v, v] W fun e w' => e = .returned (.agg #[.int .i64 k, .int .i64 n, .int .i64 d, .string t, .slice A l c]) ∧ Below W.heap.size W w') :
    Calls Tryz.prog 23 #[.string name, v] w fun e w' => e = .returned (.agg #[.int .i64 k, .int .i64 n, .int .i64 d, .string t, .slice A l c]) ∧ Below w.heap.size w w' := by
  have HO := Lib.hid hO
  clear hO
  go_enter Tryz.func23, Tryz.ntmps23
  go_wp2_with (go_at_call 39; refine (HO.out _ ((Below.refl _ _).alloc (Nat.le_refl _) _)).mono ?_; rintro e w1 ⟨rfl, hb1⟩; obtain ⟨c1, f1, z1, k1⟩ := box_cells (heap_new1 _ _) hb1)
  refine bodyPost_ret (v := .agg #[.int .i64 k, .int .i64 n, .int .i64 d, .string t, .slice A l c]) (by simp [results, Tryz.results23, go_sem, c1]) rfl ⟨rfl, ?_⟩
  have pb := below_one hb1
  clear c1 f1
  (repeat refine below_set0 ?_ _ _)
  exact pb

end Go.Proofs.YtkglbccdiofnkaaGreatDoor

