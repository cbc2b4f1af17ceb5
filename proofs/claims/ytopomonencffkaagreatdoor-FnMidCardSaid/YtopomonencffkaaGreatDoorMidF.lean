/-
The package's MID.
-/
import Derived.Test.YtopomonencffkaaGreatDoorLone
import Derived.Test.YtopomonencffkaaGreatDoorCount
namespace Go.Proofs.YtopomonencffkaaGreatDoor
open Go.RowKit Go.Fl

set_option maxRecDepth 100000 in
set_option maxHeartbeats 4000000 in
theorem mid_neg1 (s : ByteArray) (a b : Int) (l : Nat) (es : List (Nat × Value)) (f : Option Addr) (w : World) (ha : asciiB s = true) (hs : s.size ≤ 1000) (h0 : a < 1) (h1 : -99999999999 ≤ a) (hI : IList w l [⟨2, 0, 0, s⟩, ⟨1, a, 1, ⟨#[]⟩⟩, ⟨1, b, 1, ⟨#[]⟩⟩] es) :
    Calls Tryz.prog 67 #[.pointer f, .string ⟨#[77, 73, 68]⟩, .pointer (some ⟨l, 0, none⟩)] w
      fun e w' => e = .returned (.agg #[.string ⟨#[]⟩, .float .f64 0, .string errV, .slice none 0 0, .slice none 0 0, .bool false, .string errV, .int .u8 5, .pointer none, .pointer none]) ∧ Below w.heap.size w w' := by
  have hu80 := Tryz.underlying70
  have hta := assertArg
  obtain ⟨e0, g0, hg0, he0, hcell0⟩ := hI.at_ 0 _ rfl
  obtain ⟨e1, g1, hg1, he1, hcell1⟩ := hI.at_ 1 _ rfl
  obtain ⟨e2, g2, hg2, he2, hcell2⟩ := hI.at_ 2 _ rfl
  obtain rfl : g0 = ⟨0, s, false, ⟨#[]⟩, 2⟩ := hg0.2.1 rfl
  obtain ⟨y1, hy1, rfl⟩ := hg1.1 rfl
  obtain ⟨y2, hy2, rfl⟩ := hg2.1 rfl
  rw [whole_six] at hy1 hy2
  have hlen : es.length = 3 := hI.len
  have HF0 : Hid (nx l es 0 = e0) := by rw [Hid]; unfold nx; rw [he0]
  have HX1 : Hid (nxp es (0 + 1) = some ⟨e1, 0, none⟩) := by rw [Hid]; unfold nxp; rw [he1]
  have HX2 : Hid (nxp es (1 + 1) = some ⟨e2, 0, none⟩) := by rw [Hid]; unfold nxp; rw [he2]
  have HC0 : Hid (∀ W, Below w.heap.size w W → (∀ j, W.cell? ⟨e0, j, none⟩ = (#[Value.pointer (some ⟨nx l es 1, 0, none⟩), .pointer (some ⟨l, 0, none⟩), .pointer (some ⟨l, 0, none⟩), .iface 70 (.agg #[.string ⟨#[]⟩, .float .f64 0, .string s, .slice none 0 0, .slice none 0 0, .bool false, .string ⟨#[]⟩, .int .u8 2, .pointer none, .pointer none])] : Array Value)[j]?) ∧ e0 < W.heap.size) := fun W hW => by
    have hz := heap_lt hcell0
    obtain ⟨k1, k2, k3⟩ := row_facts ((hW.block e0 hz).trans hcell0)
    exact ⟨k1, k3⟩
  have HC1 : Hid (∀ W, Below w.heap.size w W → (∀ j, W.cell? ⟨e1, j, none⟩ = (#[Value.pointer (some ⟨nx l es 2, 0, none⟩), .pointer (some ⟨pv l es 1, 0, none⟩), .pointer (some ⟨l, 0, none⟩), .iface 70 (.agg #[.string ⟨#[]⟩, .float .f64 y1, .string ⟨#[]⟩, .slice none 0 0, .slice none 0 0, .bool false, .string ⟨#[]⟩, .int .u8 1, .pointer none, .pointer none])] : Array Value)[j]?) ∧ e1 < W.heap.size) := fun W hW => by
    have hz := heap_lt hcell1
    obtain ⟨k1, k2, k3⟩ := row_facts ((hW.block e1 hz).trans hcell1)
    exact ⟨k1, k3⟩
  have HC2 : Hid (∀ W, Below w.heap.size w W → (∀ j, W.cell? ⟨e2, j, none⟩ = (#[Value.pointer (some ⟨nx l es 3, 0, none⟩), .pointer (some ⟨pv l es 2, 0, none⟩), .pointer (some ⟨l, 0, none⟩), .iface 70 (.agg #[.string ⟨#[]⟩, .float .f64 y2, .string ⟨#[]⟩, .slice none 0 0, .slice none 0 0, .bool false, .string ⟨#[]⟩, .int .u8 1, .pointer none, .pointer none])] : Array Value)[j]?) ∧ e2 < W.heap.size) := fun W hW => by
    have hz := heap_lt hcell2
    obtain ⟨k1, k2, k3⟩ := row_facts ((hW.block e2 hz).trans hcell2)
    exact ⟨k1, k3⟩
  have HR : Hid (∀ W, Below w.heap.size w W → Ring W l es) := fun W hW => hI.ring.below hW
  have HE0 := Lib.hid he0
  have HE1 := Lib.hid he1
  have HLen := Lib.hid hlen
  have HA := Lib.hid ha
  have HS : Hid (s.size ≤ 1000) := hs
  have HLT := Lib.hid (plain_lt ha)
  have HY1 := Lib.hid hy1
  have HY2 := Lib.hid hy2
  have hll : Hid (s.data.toList.length = s.size) := Array.length_toList
  have pb := Below.refl w.heap.size w
  obtain ⟨ce, ze⟩ := HC0.out w pb
  have HCV : Hid (∀ z, Sx z (16 * a) → ∀ W : World, (convert 46 3 (.float .f64 z)).run Tryz.prog W = .ok (.int .i64 a) W) := fun z hz W => by
    have := conv_sx hz (by omega) (by omega) W
    rwa [Int.mul_tdiv_cancel_left _ (by omega)] at this
  clear hI hg0 hg1 hg2 he0 he1 he2 hcell0 hcell1 hcell2 hlen ha hs hy1 hy2
  go_enter Tryz.func67, Tryz.ntmps67
  go_wp2_with (first
    | (go_at_call 60; refine (len_any _ (HR.out _ (pb.alloc pb.size _))).mono ?_; rintro e w1 ⟨rfl, rfl⟩; rw [HLen.out])
    | (go_at_call 53; refine (front_some _ (HR.out _ (by first | exact pb1 | exact pb.alloc pb.size _)) (by rw [HLen.out]; omega)).mono ?_; rintro e w1 ⟨rfl, rfl⟩; rw [HF0.out])
    | (go_at_call 64; refine (value_str _ _ _ _ _).mono ?_; rintro e w1 ⟨rfl, hb1⟩; have pb1 := below_one hb1; obtain ⟨c1, f1, z1, k1⟩ := box_cells (heap_new1 w _) hb1; clear ce ze))
  refine (next_any _ (HR.out _ pb1) 0 e0 _ HE0.out).mono ?_
  rintro e w2 ⟨rfl, rfl⟩
  rw [HX1.out]
  obtain ⟨ce1, ze1⟩ := HC1.out _ pb1
  go_wp2_with (first
    | (go_at_call 55; refine (toNumber_num y1 _ _ _ _ _ HY1.out).mono ?_; rintro e w3 ⟨z1', hz1', rfl, hb3⟩; have pb3 := below_next pb1 pb1.size hb3; obtain ⟨c3, f3, z3, k3⟩ := box_cells k1 hb3; have HZ1 := Lib.hid hz1'; clear hz1' ce1 ze1 c1 f1)
    | (go_at_call 53; refine (front_some _ (HR.out _ pb3) (by rw [HLen.out]; omega)).mono ?_; rintro e w4 ⟨rfl, rfl⟩; rw [HF0.out]))
  refine (next_any _ (HR.out _ pb3) 0 e0 _ HE0.out).mono ?_
  rintro e w4 ⟨rfl, rfl⟩
  rw [HX1.out]
  go_wp2_with fail
  refine (next_any _ (HR.out _ pb3) 1 e1 _ HE1.out).mono ?_
  rintro e w4 ⟨rfl, rfl⟩
  rw [HX2.out]
  obtain ⟨ce2, ze2⟩ := HC2.out _ pb3
  go_wp2_with fail
  refine (toNumber_num y2 _ _ _ _ _ HY2.out).mono ?_
  rintro e w5 ⟨z2', hz2', rfl, hb5⟩
  have pb5 := below_next pb3 pb3.size hb5
  obtain ⟨c5, f5, z5, k5⟩ := box_cells k3 hb5
  have HZ2 := Lib.hid hz2'
  have k6 : ∀ A B, ((w5.alloc A).alloc B).heap[w.heap.size]? = _ := fun A B => (Below.heap_alloc (w5.alloc A) B _ (by simp; omega)).trans ((Below.heap_alloc w5 A _ z5).trans k5)
  have pb6 : ∀ A B, Below w.heap.size w ((w5.alloc A).alloc B) := fun A B => (pb5.alloc pb5.size A).alloc (by have := pb5.size; simp; omega) B
  clear hz2' ce2 ze2 c3 f3
  have hcv := HCV.out _ HZ1.out
  go_wp2_with (go_at_call 61; refine (newErr_any _ _ _).mono ?_; rintro e w7 ⟨rfl, hb7⟩; obtain ⟨c7, f7, z7, k7⟩ := box_cells (k6 _ _) hb7; have pb7 := below_next (pb6 _ _) (pb6 _ _).size hb7; clear c5 f5)
  refine bodyPost_ret (v := .agg #[.string ⟨#[]⟩, .float .f64 0, .string errV, .slice none 0 0, .slice none 0 0, .bool false, .string errV, .int .u8 5, .pointer none, .pointer none]) (by simp [results, Tryz.results67, go_sem, c7, errV]) rfl ⟨rfl, ?_⟩
  clear c7 f7
  (repeat refine below_set0 ?_ _ _)
  exact pb7
set_option maxRecDepth 100000 in
set_option maxHeartbeats 4000000 in
theorem mid_neg2 (s : ByteArray) (a b : Int) (l : Nat) (es : List (Nat × Value)) (f : Option Addr) (w : World) (ha : asciiB s = true) (hs : s.size ≤ 1000) (h0 : 1 ≤ a) (h1 : a ≤ 99999999999) (h2 : b < 0) (hI : IList w l [⟨2, 0, 0, s⟩, ⟨1, a, 1, ⟨#[]⟩⟩, ⟨1, b, 1, ⟨#[]⟩⟩] es) :
    Calls Tryz.prog 67 #[.pointer f, .string ⟨#[77, 73, 68]⟩, .pointer (some ⟨l, 0, none⟩)] w
      fun e w' => e = .returned (.agg #[.string ⟨#[]⟩, .float .f64 0, .string errV, .slice none 0 0, .slice none 0 0, .bool false, .string errV, .int .u8 5, .pointer none, .pointer none]) ∧ Below w.heap.size w w' := by
  have hu80 := Tryz.underlying70
  have hta := assertArg
  obtain ⟨e0, g0, hg0, he0, hcell0⟩ := hI.at_ 0 _ rfl
  obtain ⟨e1, g1, hg1, he1, hcell1⟩ := hI.at_ 1 _ rfl
  obtain ⟨e2, g2, hg2, he2, hcell2⟩ := hI.at_ 2 _ rfl
  obtain rfl : g0 = ⟨0, s, false, ⟨#[]⟩, 2⟩ := hg0.2.1 rfl
  obtain ⟨y1, hy1, rfl⟩ := hg1.1 rfl
  obtain ⟨y2, hy2, rfl⟩ := hg2.1 rfl
  rw [whole_six] at hy1 hy2
  have hlen : es.length = 3 := hI.len
  have HF0 : Hid (nx l es 0 = e0) := by rw [Hid]; unfold nx; rw [he0]
  have HX1 : Hid (nxp es (0 + 1) = some ⟨e1, 0, none⟩) := by rw [Hid]; unfold nxp; rw [he1]
  have HX2 : Hid (nxp es (1 + 1) = some ⟨e2, 0, none⟩) := by rw [Hid]; unfold nxp; rw [he2]
  have HC0 : Hid (∀ W, Below w.heap.size w W → (∀ j, W.cell? ⟨e0, j, none⟩ = (#[Value.pointer (some ⟨nx l es 1, 0, none⟩), .pointer (some ⟨l, 0, none⟩), .pointer (some ⟨l, 0, none⟩), .iface 70 (.agg #[.string ⟨#[]⟩, .float .f64 0, .string s, .slice none 0 0, .slice none 0 0, .bool false, .string ⟨#[]⟩, .int .u8 2, .pointer none, .pointer none])] : Array Value)[j]?) ∧ e0 < W.heap.size) := fun W hW => by
    have hz := heap_lt hcell0
    obtain ⟨k1, k2, k3⟩ := row_facts ((hW.block e0 hz).trans hcell0)
    exact ⟨k1, k3⟩
  have HC1 : Hid (∀ W, Below w.heap.size w W → (∀ j, W.cell? ⟨e1, j, none⟩ = (#[Value.pointer (some ⟨nx l es 2, 0, none⟩), .pointer (some ⟨pv l es 1, 0, none⟩), .pointer (some ⟨l, 0, none⟩), .iface 70 (.agg #[.string ⟨#[]⟩, .float .f64 y1, .string ⟨#[]⟩, .slice none 0 0, .slice none 0 0, .bool false, .string ⟨#[]⟩, .int .u8 1, .pointer none, .pointer none])] : Array Value)[j]?) ∧ e1 < W.heap.size) := fun W hW => by
    have hz := heap_lt hcell1
    obtain ⟨k1, k2, k3⟩ := row_facts ((hW.block e1 hz).trans hcell1)
    exact ⟨k1, k3⟩
  have HC2 : Hid (∀ W, Below w.heap.size w W → (∀ j, W.cell? ⟨e2, j, none⟩ = (#[Value.pointer (some ⟨nx l es 3, 0, none⟩), .pointer (some ⟨pv l es 2, 0, none⟩), .pointer (some ⟨l, 0, none⟩), .iface 70 (.agg #[.string ⟨#[]⟩, .float .f64 y2, .string ⟨#[]⟩, .slice none 0 0, .slice none 0 0, .bool false, .string ⟨#[]⟩, .int .u8 1, .pointer none, .pointer none])] : Array Value)[j]?) ∧ e2 < W.heap.size) := fun W hW => by
    have hz := heap_lt hcell2
    obtain ⟨k1, k2, k3⟩ := row_facts ((hW.block e2 hz).trans hcell2)
    exact ⟨k1, k3⟩
  have HR : Hid (∀ W, Below w.heap.size w W → Ring W l es) := fun W hW => hI.ring.below hW
  have HE0 := Lib.hid he0
  have HE1 := Lib.hid he1
  have HLen := Lib.hid hlen
  have HA := Lib.hid ha
  have HS : Hid (s.size ≤ 1000) := hs
  have HLT := Lib.hid (plain_lt ha)
  have HY1 := Lib.hid hy1
  have HY2 := Lib.hid hy2
  have hll : Hid (s.data.toList.length = s.size) := Array.length_toList
  have pb := Below.refl w.heap.size w
  obtain ⟨ce, ze⟩ := HC0.out w pb
  have HCV : Hid (∀ z, Sx z (16 * a) → ∀ W : World, (convert 46 3 (.float .f64 z)).run Tryz.prog W = .ok (.int .i64 a) W) := fun z hz W => by
    have := conv_sx hz (by omega) (by omega) W
    rwa [Int.mul_tdiv_cancel_left _ (by omega)] at this
  have ha1 : ¬ a < 1 := by omega
  have HLTZ : Hid (∀ z, Sx z (16 * b) → (FloatKind.f64.format.order z 0 == some .lt) = true) := fun z hz => by
    have := Sx.lt_ hz Sx.zero
    exact this.trans (by simp; omega)
  clear hI hg0 hg1 hg2 he0 he1 he2 hcell0 hcell1 hcell2 hlen ha hs hy1 hy2
  go_enter Tryz.func67, Tryz.ntmps67
  go_wp2_with (first
    | (go_at_call 60; refine (len_any _ (HR.out _ (pb.alloc pb.size _))).mono ?_; rintro e w1 ⟨rfl, rfl⟩; rw [HLen.out])
    | (go_at_call 53; refine (front_some _ (HR.out _ (by first | exact pb1 | exact pb.alloc pb.size _)) (by rw [HLen.out]; omega)).mono ?_; rintro e w1 ⟨rfl, rfl⟩; rw [HF0.out])
    | (go_at_call 64; refine (value_str _ _ _ _ _).mono ?_; rintro e w1 ⟨rfl, hb1⟩; have pb1 := below_one hb1; obtain ⟨c1, f1, z1, k1⟩ := box_cells (heap_new1 w _) hb1; clear ce ze))
  refine (next_any _ (HR.out _ pb1) 0 e0 _ HE0.out).mono ?_
  rintro e w2 ⟨rfl, rfl⟩
  rw [HX1.out]
  obtain ⟨ce1, ze1⟩ := HC1.out _ pb1
  go_wp2_with (first
    | (go_at_call 55; refine (toNumber_num y1 _ _ _ _ _ HY1.out).mono ?_; rintro e w3 ⟨z1', hz1', rfl, hb3⟩; have pb3 := below_next pb1 pb1.size hb3; obtain ⟨c3, f3, z3, k3⟩ := box_cells k1 hb3; have HZ1 := Lib.hid hz1'; clear hz1' ce1 ze1 c1 f1)
    | (go_at_call 53; refine (front_some _ (HR.out _ pb3) (by rw [HLen.out]; omega)).mono ?_; rintro e w4 ⟨rfl, rfl⟩; rw [HF0.out]))
  refine (next_any _ (HR.out _ pb3) 0 e0 _ HE0.out).mono ?_
  rintro e w4 ⟨rfl, rfl⟩
  rw [HX1.out]
  go_wp2_with fail
  refine (next_any _ (HR.out _ pb3) 1 e1 _ HE1.out).mono ?_
  rintro e w4 ⟨rfl, rfl⟩
  rw [HX2.out]
  obtain ⟨ce2, ze2⟩ := HC2.out _ pb3
  go_wp2_with fail
  refine (toNumber_num y2 _ _ _ _ _ HY2.out).mono ?_
  rintro e w5 ⟨z2', hz2', rfl, hb5⟩
  have pb5 := below_next pb3 pb3.size hb5
  obtain ⟨c5, f5, z5, k5⟩ := box_cells k3 hb5
  have HZ2 := Lib.hid hz2'
  have k6 : ∀ A B, ((w5.alloc A).alloc B).heap[w.heap.size]? = _ := fun A B => (Below.heap_alloc (w5.alloc A) B _ (by simp; omega)).trans ((Below.heap_alloc w5 A _ z5).trans k5)
  have pb6 : ∀ A B, Below w.heap.size w ((w5.alloc A).alloc B) := fun A B => (pb5.alloc pb5.size A).alloc (by have := pb5.size; simp; omega) B
  clear hz2' ce2 ze2 c3 f3
  have hcv := HCV.out _ HZ1.out
  have hlt := HLTZ.out _ HZ2.out
  go_wp2_with (go_at_call 61; refine (newErr_any _ _ _).mono ?_; rintro e w7 ⟨rfl, hb7⟩; obtain ⟨c7, f7, z7, k7⟩ := box_cells (k6 _ _) hb7; have pb7 := below_next (pb6 _ _) (pb6 _ _).size hb7; clear c5 f5)
  refine bodyPost_ret (v := .agg #[.string ⟨#[]⟩, .float .f64 0, .string errV, .slice none 0 0, .slice none 0 0, .bool false, .string errV, .int .u8 5, .pointer none, .pointer none]) (by simp [results, Tryz.results67, go_sem, c7, errV]) rfl ⟨rfl, ?_⟩
  clear c7 f7
  (repeat refine below_set0 ?_ _ _)
  exact pb7
set_option maxRecDepth 100000 in
set_option maxHeartbeats 4000000 in
theorem mid_in (s : ByteArray) (p q : Nat) (l : Nat) (es : List (Nat × Value)) (f : Option Addr) (w : World) (ha : asciiB s = true) (hs : s.size ≤ 1000) (h1 : p < s.size) (h2 : q ≤ s.size - p) (hI : IList w l [⟨2, 0, 0, s⟩, ⟨1, ((p : Int) + 1), 1, ⟨#[]⟩⟩, ⟨1, (q : Int), 1, ⟨#[]⟩⟩] es) :
    Calls Tryz.prog 67 #[.pointer f, .string ⟨#[77, 73, 68]⟩, .pointer (some ⟨l, 0, none⟩)] w
      fun e w' => e = .returned (.agg #[.string ⟨#[]⟩, .float .f64 0, .string (s.extract p (p + q)), .slice none 0 0, .slice none 0 0, .bool false, .string ⟨#[]⟩, .int .u8 2, .pointer none, .pointer none]) ∧ Below w.heap.size w w' := by
  have hu80 := Tryz.underlying70
  have hta := assertArg
  obtain ⟨e0, g0, hg0, he0, hcell0⟩ := hI.at_ 0 _ rfl
  obtain ⟨e1, g1, hg1, he1, hcell1⟩ := hI.at_ 1 _ rfl
  obtain ⟨e2, g2, hg2, he2, hcell2⟩ := hI.at_ 2 _ rfl
  obtain rfl : g0 = ⟨0, s, false, ⟨#[]⟩, 2⟩ := hg0.2.1 rfl
  obtain ⟨y1, hy1, rfl⟩ := hg1.1 rfl
  obtain ⟨y2, hy2, rfl⟩ := hg2.1 rfl
  rw [whole_six] at hy1 hy2
  have hlen : es.length = 3 := hI.len
  have HF0 : Hid (nx l es 0 = e0) := by rw [Hid]; unfold nx; rw [he0]
  have HX1 : Hid (nxp es (0 + 1) = some ⟨e1, 0, none⟩) := by rw [Hid]; unfold nxp; rw [he1]
  have HX2 : Hid (nxp es (1 + 1) = some ⟨e2, 0, none⟩) := by rw [Hid]; unfold nxp; rw [he2]
  have HC0 : Hid (∀ W, Below w.heap.size w W → (∀ j, W.cell? ⟨e0, j, none⟩ = (#[Value.pointer (some ⟨nx l es 1, 0, none⟩), .pointer (some ⟨l, 0, none⟩), .pointer (some ⟨l, 0, none⟩), .iface 70 (.agg #[.string ⟨#[]⟩, .float .f64 0, .string s, .slice none 0 0, .slice none 0 0, .bool false, .string ⟨#[]⟩, .int .u8 2, .pointer none, .pointer none])] : Array Value)[j]?) ∧ e0 < W.heap.size) := fun W hW => by
    have hz := heap_lt hcell0
    obtain ⟨k1, k2, k3⟩ := row_facts ((hW.block e0 hz).trans hcell0)
    exact ⟨k1, k3⟩
  have HC1 : Hid (∀ W, Below w.heap.size w W → (∀ j, W.cell? ⟨e1, j, none⟩ = (#[Value.pointer (some ⟨nx l es 2, 0, none⟩), .pointer (some ⟨pv l es 1, 0, none⟩), .pointer (some ⟨l, 0, none⟩), .iface 70 (.agg #[.string ⟨#[]⟩, .float .f64 y1, .string ⟨#[]⟩, .slice none 0 0, .slice none 0 0, .bool false, .string ⟨#[]⟩, .int .u8 1, .pointer none, .pointer none])] : Array Value)[j]?) ∧ e1 < W.heap.size) := fun W hW => by
    have hz := heap_lt hcell1
    obtain ⟨k1, k2, k3⟩ := row_facts ((hW.block e1 hz).trans hcell1)
    exact ⟨k1, k3⟩
  have HC2 : Hid (∀ W, Below w.heap.size w W → (∀ j, W.cell? ⟨e2, j, none⟩ = (#[Value.pointer (some ⟨nx l es 3, 0, none⟩), .pointer (some ⟨pv l es 2, 0, none⟩), .pointer (some ⟨l, 0, none⟩), .iface 70 (.agg #[.string ⟨#[]⟩, .float .f64 y2, .string ⟨#[]⟩, .slice none 0 0, .slice none 0 0, .bool false, .string ⟨#[]⟩, .int .u8 1, .pointer none, .pointer none])] : Array Value)[j]?) ∧ e2 < W.heap.size) := fun W hW => by
    have hz := heap_lt hcell2
    obtain ⟨k1, k2, k3⟩ := row_facts ((hW.block e2 hz).trans hcell2)
    exact ⟨k1, k3⟩
  have HR : Hid (∀ W, Below w.heap.size w W → Ring W l es) := fun W hW => hI.ring.below hW
  have HE0 := Lib.hid he0
  have HE1 := Lib.hid he1
  have HLen := Lib.hid hlen
  have HA := Lib.hid ha
  have HS : Hid (s.size ≤ 1000) := hs
  have HLT := Lib.hid (plain_lt ha)
  have HY1 := Lib.hid hy1
  have HY2 := Lib.hid hy2
  have hll : Hid (s.data.toList.length = s.size) := Array.length_toList
  have pb := Below.refl w.heap.size w
  obtain ⟨ce, ze⟩ := HC0.out w pb
  have HCV1 : Hid (∀ z, Sx z (16 * ((p : Int) + 1)) → ∀ W : World, (convert 46 3 (.float .f64 z)).run Tryz.prog W = .ok (.int .i64 ((p : Int) + 1)) W) := fun z hz W => by
    have := conv_sx hz (by omega) (by omega) W
    rwa [Int.mul_tdiv_cancel_left _ (by omega)] at this
  have HCV2 : Hid (∀ z, Sx z (16 * (q : Int)) → ∀ W : World, (convert 46 3 (.float .f64 z)).run Tryz.prog W = .ok (.int .i64 (q : Int)) W) := fun z hz W => by
    have := conv_sx hz (by omega) (by omega) W
    rwa [Int.mul_tdiv_cancel_left _ (by omega)] at this
  have HLTZ : Hid (∀ z, Sx z (16 * (q : Int)) → (FloatKind.f64.format.order z 0 == some .lt) = false) := fun z hz => by
    have := Sx.lt_ hz Sx.zero
    exact this.trans (by simp; omega)
  have a1 : ¬ (p : Int) + 1 < 1 := by omega
  have a2 : ¬ (s.size : Int) < (p : Int) + 1 := by omega
  have hp2 : (p : Int) + 1 - 1 = (p : Int) := by omega
  have hw1 : wrap64 (p : Int) = (p : Int) := by unfold wrap64; omega
  have hw2 : wrap64 ((p : Int) + (q : Int)) = (p : Int) + (q : Int) := by unfold wrap64; omega
  have hw3 : wrap64 ((s.size : Int) + 1) = (s.size : Int) + 1 := by unfold wrap64; omega
  have a3 : ¬ (s.size : Int) + 1 < (p : Int) + (q : Int) := by omega
  have a4 : (p : Int) ≤ (p : Int) + (q : Int) := by omega
  have HPQ : Hid (p < s.size ∧ q ≤ s.size - p) := ⟨h1, h2⟩
  clear h1 h2
  clear hI hg0 hg1 hg2 he0 he1 he2 hcell0 hcell1 hcell2 hlen ha hs hy1 hy2
  go_enter Tryz.func67, Tryz.ntmps67
  go_wp2_with (first
    | (go_at_call 60; refine (len_any _ (HR.out _ (pb.alloc pb.size _))).mono ?_; rintro e w1 ⟨rfl, rfl⟩; rw [HLen.out])
    | (go_at_call 53; refine (front_some _ (HR.out _ (by first | exact pb1 | exact pb.alloc pb.size _)) (by rw [HLen.out]; omega)).mono ?_; rintro e w1 ⟨rfl, rfl⟩; rw [HF0.out])
    | (go_at_call 64; refine (value_str _ _ _ _ _).mono ?_; rintro e w1 ⟨rfl, hb1⟩; have pb1 := below_one hb1; obtain ⟨c1, f1, z1, k1⟩ := box_cells (heap_new1 w _) hb1; clear ce ze))
  refine (next_any _ (HR.out _ pb1) 0 e0 _ HE0.out).mono ?_
  rintro e w2 ⟨rfl, rfl⟩
  rw [HX1.out]
  obtain ⟨ce1, ze1⟩ := HC1.out _ pb1
  go_wp2_with (first
    | (go_at_call 55; refine (toNumber_num y1 _ _ _ _ _ HY1.out).mono ?_; rintro e w3 ⟨z1', hz1', rfl, hb3⟩; have pb3 := below_next pb1 pb1.size hb3; obtain ⟨c3, f3, z3, k3⟩ := box_cells k1 hb3; have HZ1 := Lib.hid hz1'; clear hz1' ce1 ze1 c1 f1)
    | (go_at_call 53; refine (front_some _ (HR.out _ pb3) (by rw [HLen.out]; omega)).mono ?_; rintro e w4 ⟨rfl, rfl⟩; rw [HF0.out]))
  refine (next_any _ (HR.out _ pb3) 0 e0 _ HE0.out).mono ?_
  rintro e w4 ⟨rfl, rfl⟩
  rw [HX1.out]
  go_wp2_with fail
  refine (next_any _ (HR.out _ pb3) 1 e1 _ HE1.out).mono ?_
  rintro e w4 ⟨rfl, rfl⟩
  rw [HX2.out]
  obtain ⟨ce2, ze2⟩ := HC2.out _ pb3
  go_wp2_with fail
  refine (toNumber_num y2 _ _ _ _ _ HY2.out).mono ?_
  rintro e w5 ⟨z2', hz2', rfl, hb5⟩
  have pb5 := below_next pb3 pb3.size hb5
  obtain ⟨c5, f5, z5, k5⟩ := box_cells k3 hb5
  have HZ2 := Lib.hid hz2'
  have k6 : ∀ A B, ((w5.alloc A).alloc B).heap[w.heap.size]? = _ := fun A B => (Below.heap_alloc (w5.alloc A) B _ (by simp; omega)).trans ((Below.heap_alloc w5 A _ z5).trans k5)
  have pb6 : ∀ A B, Below w.heap.size w ((w5.alloc A).alloc B) := fun A B => (pb5.alloc pb5.size A).alloc (by have := pb5.size; simp; omega) B
  clear hz2' ce2 ze2 c3 f3
  have hcv1 := HCV1.out _ HZ1.out
  have hcv2 := HCV2.out _ HZ2.out
  have hlt := HLTZ.out _ HZ2.out
  go_wp2_with (go_at_call 144; refine (count_ascii s _ HA.out (by have := HS.out; omega)).mono ?_; rintro e w7 ⟨rfl, hb7⟩; obtain ⟨c7, f7, z7, k7⟩ := box_cells (k6 _ _) hb7; have pb7 := below_next (pb6 _ _) (pb6 _ _).size hb7; obtain ⟨d7, g7, y7, j7⟩ := box_cells (heap_new2b w5 _ _) hb7; clear c5 f5)
  obtain ⟨W', c, hrun, hc, hbr, hz', hcl⟩ := runes_conv w7 s HA.out (by have := HS.out; omega)
  rw [hrun]
  have pb8 := below_next pb7 pb7.size hbr
  obtain ⟨c8, f8, z8, k8⟩ := box_cells k7 hbr
  have HCL := Lib.hid hcl
  obtain ⟨hpq1, hpq2⟩ := HPQ.out
  have b1 : (p : Int) + (q : Int) ≤ (c : Int) := by omega
  have b2 : (p : Int) ≠ (c : Int) := by omega
  have b3 : p ≠ c := by omega
  have b4 : ¬ c ≤ p := by omega
  clear hcl hrun c7 f7 d7 g7 hpq1 hpq2
  go_wp2
  rw [conv_runes W' w7.heap.size p q (c - p) ((s.data.toList.drop p).take q) (by rw [List.length_take, List.length_drop, hll.out]; have := HPQ.out; omega) (fun b hb => HLT.out b (List.mem_of_mem_drop (List.mem_of_mem_take hb))) (by intro j b hj; rw [List.getElem?_take] at hj; split at hj; rw [List.getElem?_drop] at hj; exact HCL.out _ b hj; simp at hj)]
  go_wp2_with (go_at_call 62; refine (newStr_any _ _).mono ?_; rintro e w9 ⟨rfl, hb9⟩; obtain ⟨c9, f9, z9, k9⟩ := box_cells k8 hb9; have pb9 := below_next pb8 pb8.size hb9; clear c8 f8)
  rw [← extract_list s p (p + q), List.drop_take, Nat.add_sub_cancel_left]
  refine bodyPost_ret (v := .agg #[.string ⟨#[]⟩, .float .f64 0, .string ⟨((s.data.toList.drop p).take q).toArray⟩, .slice none 0 0, .slice none 0 0, .bool false, .string ⟨#[]⟩, .int .u8 2, .pointer none, .pointer none]) (by simp [results, Tryz.results67, go_sem, c9]) rfl ⟨rfl, ?_⟩
  clear c9 f9
  (repeat refine below_set0 ?_ _ _)
  exact pb9
set_option maxRecDepth 100000 in
set_option maxHeartbeats 4000000 in
theorem mid_out (s : ByteArray) (p q : Nat) (l : Nat) (es : List (Nat × Value)) (f : Option Addr) (w : World) (ha : asciiB s = true) (hs : s.size ≤ 1000) (h1 : s.size ≤ p) (h2 : p ≤ 1000000) (hI : IList w l [⟨2, 0, 0, s⟩, ⟨1, ((p : Int) + 1), 1, ⟨#[]⟩⟩, ⟨1, (q : Int), 1, ⟨#[]⟩⟩] es) :
    Calls Tryz.prog 67 #[.pointer f, .string ⟨#[77, 73, 68]⟩, .pointer (some ⟨l, 0, none⟩)] w
      fun e w' => e = .returned (.agg #[.string ⟨#[]⟩, .float .f64 0, .string ⟨#[]⟩, .slice none 0 0, .slice none 0 0, .bool false, .string ⟨#[]⟩, .int .u8 2, .pointer none, .pointer none]) ∧ Below w.heap.size w w' := by
  have hu80 := Tryz.underlying70
  have hta := assertArg
  obtain ⟨e0, g0, hg0, he0, hcell0⟩ := hI.at_ 0 _ rfl
  obtain ⟨e1, g1, hg1, he1, hcell1⟩ := hI.at_ 1 _ rfl
  obtain ⟨e2, g2, hg2, he2, hcell2⟩ := hI.at_ 2 _ rfl
  obtain rfl : g0 = ⟨0, s, false, ⟨#[]⟩, 2⟩ := hg0.2.1 rfl
  obtain ⟨y1, hy1, rfl⟩ := hg1.1 rfl
  obtain ⟨y2, hy2, rfl⟩ := hg2.1 rfl
  rw [whole_six] at hy1 hy2
  have hlen : es.length = 3 := hI.len
  have HF0 : Hid (nx l es 0 = e0) := by rw [Hid]; unfold nx; rw [he0]
  have HX1 : Hid (nxp es (0 + 1) = some ⟨e1, 0, none⟩) := by rw [Hid]; unfold nxp; rw [he1]
  have HX2 : Hid (nxp es (1 + 1) = some ⟨e2, 0, none⟩) := by rw [Hid]; unfold nxp; rw [he2]
  have HC0 : Hid (∀ W, Below w.heap.size w W → (∀ j, W.cell? ⟨e0, j, none⟩ = (#[Value.pointer (some ⟨nx l es 1, 0, none⟩), .pointer (some ⟨l, 0, none⟩), .pointer (some ⟨l, 0, none⟩), .iface 70 (.agg #[.string ⟨#[]⟩, .float .f64 0, .string s, .slice none 0 0, .slice none 0 0, .bool false, .string ⟨#[]⟩, .int .u8 2, .pointer none, .pointer none])] : Array Value)[j]?) ∧ e0 < W.heap.size) := fun W hW => by
    have hz := heap_lt hcell0
    obtain ⟨k1, k2, k3⟩ := row_facts ((hW.block e0 hz).trans hcell0)
    exact ⟨k1, k3⟩
  have HC1 : Hid (∀ W, Below w.heap.size w W → (∀ j, W.cell? ⟨e1, j, none⟩ = (#[Value.pointer (some ⟨nx l es 2, 0, none⟩), .pointer (some ⟨pv l es 1, 0, none⟩), .pointer (some ⟨l, 0, none⟩), .iface 70 (.agg #[.string ⟨#[]⟩, .float .f64 y1, .string ⟨#[]⟩, .slice none 0 0, .slice none 0 0, .bool false, .string ⟨#[]⟩, .int .u8 1, .pointer none, .pointer none])] : Array Value)[j]?) ∧ e1 < W.heap.size) := fun W hW => by
    have hz := heap_lt hcell1
    obtain ⟨k1, k2, k3⟩ := row_facts ((hW.block e1 hz).trans hcell1)
    exact ⟨k1, k3⟩
  have HC2 : Hid (∀ W, Below w.heap.size w W → (∀ j, W.cell? ⟨e2, j, none⟩ = (#[Value.pointer (some ⟨nx l es 3, 0, none⟩), .pointer (some ⟨pv l es 2, 0, none⟩), .pointer (some ⟨l, 0, none⟩), .iface 70 (.agg #[.string ⟨#[]⟩, .float .f64 y2, .string ⟨#[]⟩, .slice none 0 0, .slice none 0 0, .bool false, .string ⟨#[]⟩, .int .u8 1, .pointer none, .pointer none])] : Array Value)[j]?) ∧ e2 < W.heap.size) := fun W hW => by
    have hz := heap_lt hcell2
    obtain ⟨k1, k2, k3⟩ := row_facts ((hW.block e2 hz).trans hcell2)
    exact ⟨k1, k3⟩
  have HR : Hid (∀ W, Below w.heap.size w W → Ring W l es) := fun W hW => hI.ring.below hW
  have HE0 := Lib.hid he0
  have HE1 := Lib.hid he1
  have HLen := Lib.hid hlen
  have HA := Lib.hid ha
  have HS : Hid (s.size ≤ 1000) := hs
  have HLT := Lib.hid (plain_lt ha)
  have HY1 := Lib.hid hy1
  have HY2 := Lib.hid hy2
  have hll : Hid (s.data.toList.length = s.size) := Array.length_toList
  have pb := Below.refl w.heap.size w
  obtain ⟨ce, ze⟩ := HC0.out w pb
  have HCV1 : Hid (∀ z, Sx z (16 * ((p : Int) + 1)) → ∀ W : World, (convert 46 3 (.float .f64 z)).run Tryz.prog W = .ok (.int .i64 ((p : Int) + 1)) W) := fun z hz W => by
    have := conv_sx hz (by omega) (by omega) W
    rwa [Int.mul_tdiv_cancel_left _ (by omega)] at this
  have HLTZ : Hid (∀ z, Sx z (16 * (q : Int)) → (FloatKind.f64.format.order z 0 == some .lt) = false) := fun z hz => by
    have := Sx.lt_ hz Sx.zero
    exact this.trans (by simp; omega)
  have a1 : ¬ (p : Int) + 1 < 1 := by omega
  have a2 : (s.size : Int) < (p : Int) + 1 := by omega
  clear h1 h2
  clear hI hg0 hg1 hg2 he0 he1 he2 hcell0 hcell1 hcell2 hlen ha hs hy1 hy2
  go_enter Tryz.func67, Tryz.ntmps67
  go_wp2_with (first
    | (go_at_call 60; refine (len_any _ (HR.out _ (pb.alloc pb.size _))).mono ?_; rintro e w1 ⟨rfl, rfl⟩; rw [HLen.out])
    | (go_at_call 53; refine (front_some _ (HR.out _ (by first | exact pb1 | exact pb.alloc pb.size _)) (by rw [HLen.out]; omega)).mono ?_; rintro e w1 ⟨rfl, rfl⟩; rw [HF0.out])
    | (go_at_call 64; refine (value_str _ _ _ _ _).mono ?_; rintro e w1 ⟨rfl, hb1⟩; have pb1 := below_one hb1; obtain ⟨c1, f1, z1, k1⟩ := box_cells (heap_new1 w _) hb1; clear ce ze))
  refine (next_any _ (HR.out _ pb1) 0 e0 _ HE0.out).mono ?_
  rintro e w2 ⟨rfl, rfl⟩
  rw [HX1.out]
  obtain ⟨ce1, ze1⟩ := HC1.out _ pb1
  go_wp2_with (first
    | (go_at_call 55; refine (toNumber_num y1 _ _ _ _ _ HY1.out).mono ?_; rintro e w3 ⟨z1', hz1', rfl, hb3⟩; have pb3 := below_next pb1 pb1.size hb3; obtain ⟨c3, f3, z3, k3⟩ := box_cells k1 hb3; have HZ1 := Lib.hid hz1'; clear hz1' ce1 ze1 c1 f1)
    | (go_at_call 53; refine (front_some _ (HR.out _ pb3) (by rw [HLen.out]; omega)).mono ?_; rintro e w4 ⟨rfl, rfl⟩; rw [HF0.out]))
  refine (next_any _ (HR.out _ pb3) 0 e0 _ HE0.out).mono ?_
  rintro e w4 ⟨rfl, rfl⟩
  rw [HX1.out]
  go_wp2_with fail
  refine (next_any _ (HR.out _ pb3) 1 e1 _ HE1.out).mono ?_
  rintro e w4 ⟨rfl, rfl⟩
  rw [HX2.out]
  obtain ⟨ce2, ze2⟩ := HC2.out _ pb3
  go_wp2_with fail
  refine (toNumber_num y2 _ _ _ _ _ HY2.out).mono ?_
  rintro e w5 ⟨z2', hz2', rfl, hb5⟩
  have pb5 := below_next pb3 pb3.size hb5
  obtain ⟨c5, f5, z5, k5⟩ := box_cells k3 hb5
  have HZ2 := Lib.hid hz2'
  have k6 : ∀ A B, ((w5.alloc A).alloc B).heap[w.heap.size]? = _ := fun A B => (Below.heap_alloc (w5.alloc A) B _ (by simp; omega)).trans ((Below.heap_alloc w5 A _ z5).trans k5)
  have pb6 : ∀ A B, Below w.heap.size w ((w5.alloc A).alloc B) := fun A B => (pb5.alloc pb5.size A).alloc (by have := pb5.size; simp; omega) B
  clear hz2' ce2 ze2 c3 f3
  have hcv1 := HCV1.out _ HZ1.out
  have hlt := HLTZ.out _ HZ2.out
  go_wp2_with (first
    | (go_at_call 144; refine (count_ascii s _ HA.out (by have := HS.out; omega)).mono ?_; rintro e w7 ⟨rfl, hb7⟩; obtain ⟨c7, f7, z7, k7⟩ := box_cells (k6 _ _) hb7; have pb7 := below_next (pb6 _ _) (pb6 _ _).size hb7; clear c5 f5)
    | (go_at_call 62; refine (newStr_any _ _).mono ?_; rintro e w9 ⟨rfl, hb9⟩; obtain ⟨c9, f9, z9, k9⟩ := box_cells k7 hb9; have pb9 := below_next pb7 pb7.size hb9; clear c7 f7))
  refine bodyPost_ret (v := .agg #[.string ⟨#[]⟩, .float .f64 0, .string ⟨#[]⟩, .slice none 0 0, .slice none 0 0, .bool false, .string ⟨#[]⟩, .int .u8 2, .pointer none, .pointer none]) (by simp [results, Tryz.results67, go_sem, c9]) rfl ⟨rfl, ?_⟩
  clear c9 f9
  (repeat refine below_set0 ?_ _ _)
  exact pb9
set_option maxRecDepth 100000 in
set_option maxHeartbeats 1000000 in
theorem MID_neg1 (s : ByteArray) (a b : Int) (l : Nat) (es : List (Nat × Value)) (f : Option Addr) (w : World) (ha : asciiB s = true) (hs : s.size ≤ 1000) (h0 : a < 1) (h1 : -99999999999 ≤ a) (hI : IList w l [⟨2, 0, 0, s⟩, ⟨1, a, 1, ⟨#[]⟩⟩, ⟨1, b, 1, ⟨#[]⟩⟩] es) :
    Calls Tryz.prog 43 #[.pointer f, .pointer (some ⟨l, 0, none⟩)] w
      fun e w' => e = .returned (.agg #[.string ⟨#[]⟩, .float .f64 0, .string errV, .slice none 0 0, .slice none 0 0, .bool false, .string errV, .int .u8 5, .pointer none, .pointer none]) ∧ Below w.heap.size w w' := by
  have hu80 := Tryz.underlying70
  have HF : Hid (∀ W, Below w.heap.size w W → Calls Tryz.prog 67 #[.pointer f, .string ⟨#[77, 73, 68]⟩, .pointer (some ⟨l, 0, none⟩)] W fun e w' => e = .returned (.agg #[.string ⟨#[]⟩, .float .f64 0, .string errV, .slice none 0 0, .slice none 0 0, .bool false, .string errV, .int .u8 5, .pointer none, .pointer none]) ∧ Below W.heap.size W w') := fun W hW => mid_neg1 s a b l es f W ha hs h0 h1 (hI.below hW)
  clear hI
  go_enter Tryz.func43, Tryz.ntmps43
  go_wp2_with (go_at_call 67; refine (HF.out _ ((Below.refl _ _).alloc (Nat.le_refl _) _)).mono ?_; rintro e w1 ⟨rfl, hb1⟩; obtain ⟨c1, f1, z1, k1⟩ := box_cells (heap_new1 w _) hb1)
  refine bodyPost_ret (v := .agg #[.string ⟨#[]⟩, .float .f64 0, .string errV, .slice none 0 0, .slice none 0 0, .bool false, .string errV, .int .u8 5, .pointer none, .pointer none]) (by simp [results, Tryz.results43, go_sem, c1]) rfl ⟨rfl, ?_⟩
  have pb := below_one hb1
  clear c1 f1
  (repeat refine below_set0 ?_ _ _)
  exact pb

set_option maxRecDepth 100000 in
set_option maxHeartbeats 1000000 in
theorem MID_neg2 (s : ByteArray) (a b : Int) (l : Nat) (es : List (Nat × Value)) (f : Option Addr) (w : World) (ha : asciiB s = true) (hs : s.size ≤ 1000) (h0 : 1 ≤ a) (h1 : a ≤ 99999999999) (h2 : b < 0) (hI : IList w l [⟨2, 0, 0, s⟩, ⟨1, a, 1, ⟨#[]⟩⟩, ⟨1, b, 1, ⟨#[]⟩⟩] es) :
    Calls Tryz.prog 43 #[.pointer f, .pointer (some ⟨l, 0, none⟩)] w
      fun e w' => e = .returned (.agg #[.string ⟨#[]⟩, .float .f64 0, .string errV, .slice none 0 0, .slice none 0 0, .bool false, .string errV, .int .u8 5, .pointer none, .pointer none]) ∧ Below w.heap.size w w' := by
  have hu80 := Tryz.underlying70
  have HF : Hid (∀ W, Below w.heap.size w W → Calls Tryz.prog 67 #[.pointer f, .string ⟨#[77, 73, 68]⟩, .pointer (some ⟨l, 0, none⟩)] W fun e w' => e = .returned (.agg #[.string ⟨#[]⟩, .float .f64 0, .string errV, .slice none 0 0, .slice none 0 0, .bool false, .string errV, .int .u8 5, .pointer none, .pointer none]) ∧ Below W.heap.size W w') := fun W hW => mid_neg2 s a b l es f W ha hs h0 h1 h2 (hI.below hW)
  clear hI
  go_enter Tryz.func43, Tryz.ntmps43
  go_wp2_with (go_at_call 67; refine (HF.out _ ((Below.refl _ _).alloc (Nat.le_refl _) _)).mono ?_; rintro e w1 ⟨rfl, hb1⟩; obtain ⟨c1, f1, z1, k1⟩ := box_cells (heap_new1 w _) hb1)
  refine bodyPost_ret (v := .agg #[.string ⟨#[]⟩, .float .f64 0, .string errV, .slice none 0 0, .slice none 0 0, .bool false, .string errV, .int .u8 5, .pointer none, .pointer none]) (by simp [results, Tryz.results43, go_sem, c1]) rfl ⟨rfl, ?_⟩
  have pb := below_one hb1
  clear c1 f1
  (repeat refine below_set0 ?_ _ _)
  exact pb

set_option maxRecDepth 100000 in
set_option maxHeartbeats 1000000 in
theorem MID_in (s : ByteArray) (p q : Nat) (l : Nat) (es : List (Nat × Value)) (f : Option Addr) (w : World) (ha : asciiB s = true) (hs : s.size ≤ 1000) (h1 : p < s.size) (h2 : q ≤ s.size - p) (hI : IList w l [⟨2, 0, 0, s⟩, ⟨1, ((p : Int) + 1), 1, ⟨#[]⟩⟩, ⟨1, (q : Int), 1, ⟨#[]⟩⟩] es) :
    Calls Tryz.prog 43 #[.pointer f, .pointer (some ⟨l, 0, none⟩)] w
      fun e w' => e = .returned (.agg #[.string ⟨#[]⟩, .float .f64 0, .string (s.extract p (p + q)), .slice none 0 0, .slice none 0 0, .bool false, .string ⟨#[]⟩, .int .u8 2, .pointer none, .pointer none]) ∧ Below w.heap.size w w' := by
  have hu80 := Tryz.underlying70
  have HF : Hid (∀ W, Below w.heap.size w W → Calls Tryz.prog 67 #[.pointer f, .string ⟨#[77, 73, 68]⟩, .pointer (some ⟨l, 0, none⟩)] W fun e w' => e = .returned (.agg #[.string ⟨#[]⟩, .float .f64 0, .string (s.extract p (p + q)), .slice none 0 0, .slice none 0 0, .bool false, .string ⟨#[]⟩, .int .u8 2, .pointer none, .pointer none]) ∧ Below W.heap.size W w') := fun W hW => mid_in s p q l es f W ha hs h1 h2 (hI.below hW)
  clear hI
  go_enter Tryz.func43, Tryz.ntmps43
  go_wp2_with (go_at_call 67; refine (HF.out _ ((Below.refl _ _).alloc (Nat.le_refl _) _)).mono ?_; rintro e w1 ⟨rfl, hb1⟩; obtain ⟨c1, f1, z1, k1⟩ := box_cells (heap_new1 w _) hb1)
  refine bodyPost_ret (v := .agg #[.string ⟨#[]⟩, .float .f64 0, .string (s.extract p (p + q)), .slice none 0 0, .slice none 0 0, .bool false, .string ⟨#[]⟩, .int .u8 2, .pointer none, .pointer none]) (by simp [results, Tryz.results43, go_sem, c1]) rfl ⟨rfl, ?_⟩
  have pb := below_one hb1
  clear c1 f1
  (repeat refine below_set0 ?_ _ _)
  exact pb

set_option maxRecDepth 100000 in
set_option maxHeartbeats 1000000 in
theorem MID_out (s : ByteArray) (p q : Nat) (l : Nat) (es : List (Nat × Value)) (f : Option Addr) (w : World) (ha : asciiB s = true) (hs : s.size ≤ 1000) (h1 : s.size ≤ p) (h2 : p ≤ 1000000) (hI : IList w l [⟨2, 0, 0, s⟩, ⟨1, ((p : Int) + 1), 1, ⟨#[]⟩⟩, ⟨1, (q : Int), 1, ⟨#[]⟩⟩] es) :
    Calls Tryz.prog 43 #[.pointer f, .pointer (some ⟨l, 0, none⟩)] w
      fun e w' => e = .returned (.agg #[.string ⟨#[]⟩, .float .f64 0, .string ⟨#[]⟩, .slice none 0 0, .slice none 0 0, .bool false, .string ⟨#[]⟩, .int .u8 2, .pointer none, .pointer none]) ∧ Below w.heap.size w w' := by
  have hu80 := Tryz.underlying70
  have HF : Hid (∀ W, Below w.heap.size w W → Calls Tryz.prog 67 #[.pointer f, .string ⟨#[77, 73, 68]⟩, .pointer (some ⟨l, 0, none⟩)] W fun e w' => e = .returned (.agg #[.string ⟨#[]⟩, .float .f64 0, .string ⟨#[]⟩, .slice none 0 0, .slice none 0 0, .bool false, .string ⟨#[]⟩, .int .u8 2, .pointer none, .pointer none]) ∧ Below W.heap.size W w') := fun W hW => mid_out s p q l es f W ha hs h1 h2 (hI.below hW)
  clear hI
  go_enter Tryz.func43, Tryz.ntmps43
  go_wp2_with (go_at_call 67; refine (HF.out _ ((Below.refl _ _).alloc (Nat.le_refl _) _)).mono ?_; rintro e w1 ⟨rfl, hb1⟩; obtain ⟨c1, f1, z1, k1⟩ := box_cells (heap_new1 w _) hb1)
  refine bodyPost_ret (v := .agg #[.string ⟨#[]⟩, .float .f64 0, .string ⟨#[]⟩, .slice none 0 0, .slice none 0 0, .bool false, .string ⟨#[]⟩, .int .u8 2, .pointer none, .pointer none]) (by simp [results, Tryz.results43, go_sem, c1]) rfl ⟨rfl, ?_⟩
  have pb := below_one hb1
  clear c1 f1
  (repeat refine below_set0 ?_ _ _)
  exact pb

end Go.Proofs.YtopomonencffkaaGreatDoor
