/-
BITXOR of the reference.
-/
import Derived.Test.YtededpnjijfieaaGreatDoorNoBitxor
import Derived.Test.YtededpnjijfieaaGreatDoorBtw
import Derived.Test.YtededpnjijfieaaGreatDoorFits
import Derived.Test.YtededpnjijfieaaGreatDoorMade
import Derived.Test.YtededpnjijfieaaGreatDoorWhole
import Derived.Test.YtededpnjijfieaaGreatDoorFac
import Derived.Test.YtededpnjijfieaaGreatDoorCallGestep
namespace Go.Proofs.YtededpnjijfieaaGreatDoor
open Go.RowKit

/-- Whole numbers may be members. -/
def bitB (x : FV) : Bool := decide (x.kind = 1) && btw x (-99999999999) 99999999999

set_option maxRecDepth 100000 in
set_option maxHeartbeats 1000000 in
theorem bitMember (x : FV) (w : World) (hx : x.kind = 1 ∨ x = ⟨6, 0, 0, ⟨#[]⟩⟩) :
    Calls Tryz.prog 164 #[.agg #[.int .i64 x.kind, .int .i64 x.num, .int .i64 x.den, .string x.text, .slice none 0 0]] w fun e w' => e = .returned (.bool (bitB x)) ∧ Below w.heap.size w w' := by
  have hu26 := Tryz.underlying26
  rcases hx with h | h
  · have e : bitB x = btw x (-99999999999) 99999999999 := by simp [bitB, h]
    have HB : Hid (∀ W, Calls Tryz.prog 162 #[.agg #[.int .i64 1, .int .i64 x.num, .int .i64 x.den, .string x.text, .slice none 0 0], .int .i64 (-99999999999), .int .i64 99999999999] W fun e w' => e = .returned (.bool (bitB x)) ∧ Below W.heap.size W w') := by
      rw [e, ← h]; exact fun W => between_num x _ _ W h
    rw [h]
    obtain ⟨B, hB⟩ : ∃ B, B = bitB x := ⟨_, rfl⟩
    rw [← hB] at HB ⊢
    clear h e hB
    go_enter Tryz.func164, Tryz.ntmps164
    go_wp2_with (go_at_call 162; refine (HB.out _).mono ?_; rintro e w1 ⟨rfl, hb1⟩)
    go_ret
    exact ⟨rfl, below_one hb1⟩
  · subst h
    have e : bitB ⟨6, 0, 0, ⟨#[]⟩⟩ = false := by simp [bitB]
    rw [e]
    clear e
    go_enter Tryz.func164, Tryz.ntmps164
    go_wp2_with (go_at_call 162; refine (between_doubt _ _ _).mono ?_; rintro e w1 ⟨rfl, hb1⟩)
    go_ret
    exact ⟨rfl, below_one hb1⟩

theorem enter_bitMember (a : Value) (W : World) : Sem.run Tryz.prog (callFunc 164 #[a]) W = .ok (.enter 164 #[a]) W := by kernel_rfl

set_option maxRecDepth 100000 in
set_option maxHeartbeats 2000000 in
theorem fitsNumbers_Bitxor (x y : FV) (v : Value) (w : World) (hr : Row w w.heap.size 5 v [FV.list x, FV.list y]) (hx : x.kind = 1 ∨ x = ⟨6, 0, 0, ⟨#[]⟩⟩) (hy : y.kind = 1 ∨ y = ⟨6, 0, 0, ⟨#[]⟩⟩) (B : Bool) (hE : [x, y].all bitB = B) :
    Calls Tryz.prog 78 #[.string ⟨#[66, 73, 84, 88, 79, 82]⟩, v] w fun e w' => e = .returned (.tuple #[.bool B, .bool true]) ∧ Below w.heap.size w w' := by
  have hr1 : Row w w.heap.size 5 v ([x, y].map FV.list) := hr
  have h2 : ∀ z ∈ [x, y], z.kind ≠ 2 := by
    intro z hz
    rcases List.mem_cons.1 hz with h | h
    · subst h; rcases hx with h | h <;> rw [h] <;> simp
    · have : z = y := by simpa using h
      subst this; rcases hy with h | h <;> rw [h] <;> simp
  have H1 : Hid (∀ W, Below w.heap.size w W → Calls Tryz.prog 160 #[v, .func (.func 161) #[] #[]] W fun e w' => (∃ b, e = .returned (.bool b)) ∧ Below W.heap.size W w') :=
    fun W hW => (every_numeric [x, y] v W ((hr1.below hW).more hW.size) (by simp) h2).mono fun e w' ⟨he, hb⟩ => ⟨⟨_, he⟩, hb⟩
  have H2 : Hid (∀ W, Below w.heap.size w W → Calls Tryz.prog 160 #[v, .func (.func 164) #[] #[]] W fun e w' => e = .returned (.bool B) ∧ Below W.heap.size W w') := by
    intro W hW
    rw [← hE]
    refine every_flat _ bitB [x, y] v W ((hr1.below hW).more hW.size) (by simp) enter_bitMember fun z hz W' => bitMember z W' ?_
    rcases List.mem_cons.1 hz with h | h
    · subst h; exact hx
    · have : z = y := by simpa using h
      subst this; exact hy
  have hmf : ∀ (fn : Fn) (first cap : Array Value) (w : World), (Instr.makeFunc fn first cap).run Tryz.prog w = .ok (.func fn first cap) w := fun _ _ _ _ => rfl
  obtain ⟨g, o, c, rfl, hc1, hg, hcell, hcell'⟩ := hr.pair
  clear hcell hcell' hr hr1 hx hy hE h2
  go_enter Tryz.func78, Tryz.ntmps78
  go_wp2_with fail
  refine (H1.out _ (Below.refl _ _)).mono ?_
  rintro e w1 ⟨⟨b0, rfl⟩, hb1⟩
  go_wp2_with fail
  refine (H2.out _ hb1).mono ?_
  rintro e w2 ⟨rfl, hb2⟩
  go_wp2
  go_ret2
  exact ⟨rfl, hb1.trans (hb2.mono hb1.size)⟩

/-- What BITXOR of whole numbers is. -/
def rBitxor (n k : Int) : FV := if n < 0 ∨ k < 0 then ⟨4, 0, 0, eNUM⟩ else fr (16 * bits .xor .i64 n k)

/-- Two elements of one cell. -/
theorem Row.pair1 {w : World} {B : Nat} {v x y : Value} (h : Row w B 1 v [[x], [y]]) :
    ∃ g o c, v = .slice (some ⟨g, o, none⟩) 2 c ∧ 2 ≤ c ∧ g < B ∧ w.cell? ⟨g, o, none⟩ = some x ∧ w.cell? ⟨g, o + 1, none⟩ = some y := by
  obtain ⟨A, c, h1, h2, h3, h4⟩ := h
  obtain ⟨g, o, rfl, hg, hc⟩ := h4 (by simp)
  exact ⟨g, o, c, h1, h2, hg, by have := hc 0 [x] rfl 0 x rfl; simpa using this, by have := hc 1 [y] rfl 0 y rfl; simpa using this⟩

set_option maxRecDepth 100000 in
set_option maxHeartbeats 2000000 in
theorem bits_neg1 (n k : Int) (v : Value) (w : World) (hr : Row w w.heap.size 5 v [FV.list ⟨1, n, 1, ⟨#[]⟩⟩, FV.list ⟨1, k, 1, ⟨#[]⟩⟩]) (hn : n < 0) :
    Calls Tryz.prog 118 #[.string ⟨#[66, 73, 84, 88, 79, 82]⟩, v] w fun e w' => e = .returned (.agg #[.int .i64 4, .int .i64 0, .int .i64 0, .string eNUM, .slice none 0 0]) ∧ Below w.heap.size w w' := by
  have hr1 : Row w w.heap.size 5 v (([⟨1, n, 1, ⟨#[]⟩⟩, ⟨1, k, 1, ⟨#[]⟩⟩] : List FV).map FV.list) := hr
  have HR := Lib.hid hr1
  have HS : Hid (∀ W, Below w.heap.size w W → Calls Tryz.prog 217 #[v] W fun e w' => e = .returned (.bool true) ∧ Below W.heap.size W w') :=
    fun W hW => strict_num [⟨1, n, 1, ⟨#[]⟩⟩, ⟨1, k, 1, ⟨#[]⟩⟩] v W ((hr1.below hW).more hW.size) (by simp) (by simp)
  obtain ⟨g, o, c, rfl, hc1, hg, hcell, hcell'⟩ := hr.pair
  have hu26 := Tryz.underlying26
  clear hcell hcell' hr hr1
  go_enter Tryz.func118, Tryz.ntmps118
  go_wp2_with (first
    | (go_at_call 211; refine (wholes_int [⟨1, n, 1, ⟨#[]⟩⟩, ⟨1, k, 1, ⟨#[]⟩⟩] _ _ ((HR.out.below ((Below.refl _ _).alloc (Nat.le_refl _) _)).more (by simp)) (by simp) (by simp) (by simp)).mono ?_; rintro e w1 ⟨v1, rfl, hR1, hb1⟩; obtain ⟨g1, o1, cc1, rfl, hcc1, hg1, hx1, hy1⟩ := Row.pair1 hR1; have HX1 := Lib.hid hx1; have HY1 := Lib.hid hy1; obtain ⟨c1, f1, z1, k1⟩ := box_cells (heap_new1 _ _) hb1; have pb1 := below_one hb1; clear hx1 hy1 hR1)
    | (go_at_call 217; refine (HS.out _ (pb1.alloc pb1.size _)).mono ?_; rintro e w2 ⟨rfl, hb2⟩; have qb2 := below_one hb2; have q1 := (qb2.cell (p := ⟨g1, o1, none⟩) hg1).trans HX1.out; have q2 := (qb2.cell (p := ⟨g1, o1 + 1, none⟩) hg1).trans HY1.out; obtain ⟨c2, f2, z2, k2⟩ := box_later k1 hb2; have pb2 := below_box pb1 pb1.size hb2; clear c1 f1))
  go_quiet (fail)
  go_wp2_with (go_at_call 143; refine (err_any _ _).mono ?_; rintro e w3 ⟨rfl, hb3⟩; have hb3' := Below.ofDrewN hb3; obtain ⟨c3, f3, z3, k3⟩ := box_cells k2 hb3'; have pb3 := below_next pb2 pb2.size hb3'; clear c2 f2)
  refine bodyPost_ret (v := .agg #[.int .i64 4, .int .i64 0, .int .i64 0, .string eNUM, .slice none 0 0]) (by simp [results, Tryz.results118, go_sem, c3, eNUM]) rfl ⟨rfl, ?_⟩
  clear c3 f3
  (repeat refine below_set0 ?_ _ _)
  exact pb3

set_option maxRecDepth 100000 in
set_option maxHeartbeats 2000000 in
theorem bits_neg2 (n k : Int) (v : Value) (w : World) (hr : Row w w.heap.size 5 v [FV.list ⟨1, n, 1, ⟨#[]⟩⟩, FV.list ⟨1, k, 1, ⟨#[]⟩⟩]) (hn : ¬ n < 0) (hk : k < 0) :
    Calls Tryz.prog 118 #[.string ⟨#[66, 73, 84, 88, 79, 82]⟩, v] w fun e w' => e = .returned (.agg #[.int .i64 4, .int .i64 0, .int .i64 0, .string eNUM, .slice none 0 0]) ∧ Below w.heap.size w w' := by
  have hr1 : Row w w.heap.size 5 v (([⟨1, n, 1, ⟨#[]⟩⟩, ⟨1, k, 1, ⟨#[]⟩⟩] : List FV).map FV.list) := hr
  have HR := Lib.hid hr1
  have HS : Hid (∀ W, Below w.heap.size w W → Calls Tryz.prog 217 #[v] W fun e w' => e = .returned (.bool true) ∧ Below W.heap.size W w') :=
    fun W hW => strict_num [⟨1, n, 1, ⟨#[]⟩⟩, ⟨1, k, 1, ⟨#[]⟩⟩] v W ((hr1.below hW).more hW.size) (by simp) (by simp)
  obtain ⟨g, o, c, rfl, hc1, hg, hcell, hcell'⟩ := hr.pair
  have hu26 := Tryz.underlying26
  clear hcell hcell' hr hr1
  go_enter Tryz.func118, Tryz.ntmps118
  go_wp2_with (first
    | (go_at_call 211; refine (wholes_int [⟨1, n, 1, ⟨#[]⟩⟩, ⟨1, k, 1, ⟨#[]⟩⟩] _ _ ((HR.out.below ((Below.refl _ _).alloc (Nat.le_refl _) _)).more (by simp)) (by simp) (by simp) (by simp)).mono ?_; rintro e w1 ⟨v1, rfl, hR1, hb1⟩; obtain ⟨g1, o1, cc1, rfl, hcc1, hg1, hx1, hy1⟩ := Row.pair1 hR1; have HX1 := Lib.hid hx1; have HY1 := Lib.hid hy1; obtain ⟨c1, f1, z1, k1⟩ := box_cells (heap_new1 _ _) hb1; have pb1 := below_one hb1; clear hx1 hy1 hR1)
    | (go_at_call 217; refine (HS.out _ (pb1.alloc pb1.size _)).mono ?_; rintro e w2 ⟨rfl, hb2⟩; have qb2 := below_one hb2; have q1 := (qb2.cell (p := ⟨g1, o1, none⟩) hg1).trans HX1.out; have q2 := (qb2.cell (p := ⟨g1, o1 + 1, none⟩) hg1).trans HY1.out; obtain ⟨c2, f2, z2, k2⟩ := box_later k1 hb2; have pb2 := below_box pb1 pb1.size hb2; clear c1 f1))
  go_quiet (fail)
  go_wp2_with (go_at_call 143; refine (err_any _ _).mono ?_; rintro e w3 ⟨rfl, hb3⟩; have hb3' := Below.ofDrewN hb3; obtain ⟨c3, f3, z3, k3⟩ := box_cells k2 hb3'; have pb3 := below_next pb2 pb2.size hb3'; clear c2 f2)
  refine bodyPost_ret (v := .agg #[.int .i64 4, .int .i64 0, .int .i64 0, .string eNUM, .slice none 0 0]) (by simp [results, Tryz.results118, go_sem, c3, eNUM]) rfl ⟨rfl, ?_⟩
  clear c3 f3
  (repeat refine below_set0 ?_ _ _)
  exact pb3

set_option maxRecDepth 100000 in
set_option maxHeartbeats 2000000 in
theorem bits_pos (n k : Int) (v : Value) (w : World) (hr : Row w w.heap.size 5 v [FV.list ⟨1, n, 1, ⟨#[]⟩⟩, FV.list ⟨1, k, 1, ⟨#[]⟩⟩]) (hn : ¬ n < 0) (hk : ¬ k < 0) :
    Calls Tryz.prog 118 #[.string ⟨#[66, 73, 84, 88, 79, 82]⟩, v] w fun e w' => e = .returned (.agg #[.int .i64 (fr (16 * bits .xor .i64 n k)).kind, .int .i64 (fr (16 * bits .xor .i64 n k)).num, .int .i64 (fr (16 * bits .xor .i64 n k)).den, .string (fr (16 * bits .xor .i64 n k)).text, .slice none 0 0]) ∧ Below w.heap.size w w' := by
  obtain ⟨r, hrr⟩ : ∃ r, r = fr (16 * bits .xor .i64 n k) := ⟨_, rfl⟩
  have HI : Hid (∀ W, Calls Tryz.prog 33 #[.int .i64 (bits .xor .i64 n k)] W fun e w' => e = .returned (.agg #[.int .i64 r.kind, .int .i64 r.num, .int .i64 r.den, .string r.text, .slice none 0 0]) ∧ Below W.heap.size W w') := by
    rw [hrr]; exact fun W => int_any _ W
  rw [← hrr]
  clear hrr
  have hr1 : Row w w.heap.size 5 v (([⟨1, n, 1, ⟨#[]⟩⟩, ⟨1, k, 1, ⟨#[]⟩⟩] : List FV).map FV.list) := hr
  have HR := Lib.hid hr1
  have HS : Hid (∀ W, Below w.heap.size w W → Calls Tryz.prog 217 #[v] W fun e w' => e = .returned (.bool true) ∧ Below W.heap.size W w') :=
    fun W hW => strict_num [⟨1, n, 1, ⟨#[]⟩⟩, ⟨1, k, 1, ⟨#[]⟩⟩] v W ((hr1.below hW).more hW.size) (by simp) (by simp)
  obtain ⟨g, o, c, rfl, hc1, hg, hcell, hcell'⟩ := hr.pair
  have hu26 := Tryz.underlying26
  clear hcell hcell' hr hr1
  go_enter Tryz.func118, Tryz.ntmps118
  go_wp2_with (first
    | (go_at_call 211; refine (wholes_int [⟨1, n, 1, ⟨#[]⟩⟩, ⟨1, k, 1, ⟨#[]⟩⟩] _ _ ((HR.out.below ((Below.refl _ _).alloc (Nat.le_refl _) _)).more (by simp)) (by simp) (by simp) (by simp)).mono ?_; rintro e w1 ⟨v1, rfl, hR1, hb1⟩; obtain ⟨g1, o1, cc1, rfl, hcc1, hg1, hx1, hy1⟩ := Row.pair1 hR1; have HX1 := Lib.hid hx1; have HY1 := Lib.hid hy1; obtain ⟨c1, f1, z1, k1⟩ := box_cells (heap_new1 _ _) hb1; have pb1 := below_one hb1; clear hx1 hy1 hR1)
    | (go_at_call 217; refine (HS.out _ (pb1.alloc pb1.size _)).mono ?_; rintro e w2 ⟨rfl, hb2⟩; have qb2 := below_one hb2; have q1 := (qb2.cell (p := ⟨g1, o1, none⟩) hg1).trans HX1.out; have q2 := (qb2.cell (p := ⟨g1, o1 + 1, none⟩) hg1).trans HY1.out; obtain ⟨c2, f2, z2, k2⟩ := box_later k1 hb2; have pb2 := below_box pb1 pb1.size hb2; clear c1 f1))
  go_quiet (fail)
  go_wp2_with (go_at_call 33; refine (HI.out _).mono ?_; rintro e w3 ⟨rfl, hb3⟩; have hb3' := Below.ofDrewN hb3; obtain ⟨c3, f3, z3, k3⟩ := box_cells k2 hb3'; have pb3 := below_next pb2 pb2.size hb3'; clear c2 f2)
  refine bodyPost_ret (v := .agg #[.int .i64 r.kind, .int .i64 r.num, .int .i64 r.den, .string r.text, .slice none 0 0]) (by simp [results, Tryz.results118, go_sem, c3]) rfl ⟨rfl, ?_⟩
  clear c3 f3
  (repeat refine below_set0 ?_ _ _)
  exact pb3

theorem bits_any (n k : Int) (v : Value) (w : World) (hr : Row w w.heap.size 5 v [FV.list ⟨1, n, 1, ⟨#[]⟩⟩, FV.list ⟨1, k, 1, ⟨#[]⟩⟩]) :
    Calls Tryz.prog 118 #[.string ⟨#[66, 73, 84, 88, 79, 82]⟩, v] w fun e w' => e = .returned (.agg #[.int .i64 (rBitxor n k).kind, .int .i64 (rBitxor n k).num, .int .i64 (rBitxor n k).den, .string (rBitxor n k).text, .slice none 0 0]) ∧ Below w.heap.size w w' := by
  by_cases h : n < 0 ∨ k < 0
  · have e : rBitxor n k = ⟨4, 0, 0, eNUM⟩ := by unfold rBitxor; rw [if_pos h]
    rw [e]
    by_cases hn : n < 0
    · exact bits_neg1 n k v w hr hn
    · exact bits_neg2 n k v w hr hn (by omega)
  · have e : rBitxor n k = fr (16 * bits .xor .i64 n k) := by unfold rBitxor; rw [if_neg h]
    rw [e]
    exact bits_pos n k v w hr (by omega) (by omega)

set_option maxRecDepth 100000 in
set_option maxHeartbeats 2000000 in
theorem callMath_Bitxor (n k : Int) (v : Value) (w : World) (hr : Row w w.heap.size 5 v [FV.list ⟨1, n, 1, ⟨#[]⟩⟩, FV.list ⟨1, k, 1, ⟨#[]⟩⟩]) :
    Calls Tryz.prog 58 #[.string ⟨#[66, 73, 84, 88, 79, 82]⟩, v] w fun e w' => e = .returned (.tuple #[.agg #[.int .i64 (rBitxor n k).kind, .int .i64 (rBitxor n k).num, .int .i64 (rBitxor n k).den, .string (rBitxor n k).text, .slice none 0 0], .bool true]) ∧ Below w.heap.size w w' := by
  obtain ⟨r, hrr⟩ : ∃ r, r = rBitxor n k := ⟨_, rfl⟩
  have HP : Hid (∀ W, Below w.heap.size w W → Calls Tryz.prog 118 #[.string ⟨#[66, 73, 84, 88, 79, 82]⟩, v] W fun e w' => e = .returned (.agg #[.int .i64 r.kind, .int .i64 r.num, .int .i64 r.den, .string r.text, .slice none 0 0]) ∧ Below W.heap.size W w') := by
    rw [hrr]; exact fun W hW => bits_any n k v W ((hr.below hW).more hW.size)
  rw [← hrr]
  clear hr hrr
  go_enter Tryz.func58, Tryz.ntmps58
  go_wp2_with (go_at_call 118; refine (HP.out _ ((Below.refl _ _).alloc (Nat.le_refl _) _)).mono ?_; rintro e w1 ⟨rfl, hb1⟩; obtain ⟨c1, f1, z1, k1⟩ := box_cells (heap_new1 _ _) hb1)
  refine bodyPost_ret (v := .tuple #[.agg #[.int .i64 r.kind, .int .i64 r.num, .int .i64 r.den, .string r.text, .slice none 0 0], .bool true]) (by simp [results, Tryz.results58, go_sem, c1]) rfl ⟨rfl, ?_⟩
  have pb := below_one hb1
  clear c1 f1
  (repeat refine below_set0 ?_ _ _)
  exact pb

/-- BITXOR of the reference, of two whole numbers. -/
theorem call_Bitxor (n k : Int) (v : Value) (w : World) (hr : Row w w.heap.size 5 v [FV.list ⟨1, n, 1, ⟨#[]⟩⟩, FV.list ⟨1, k, 1, ⟨#[]⟩⟩]) (b1 : n ≤ 99999999999) (b2 : -99999999999 ≤ n) (d1 : k ≤ 99999999999) (d2 : -99999999999 ≤ k) :
    Calls Tryz.prog 23 #[.string ⟨#[66, 73, 84, 88, 79, 82]⟩, v] w fun e w' => e = .returned (.agg #[.int .i64 (rBitxor n k).kind, .int .i64 (rBitxor n k).num, .int .i64 (rBitxor n k).den, .string (rBitxor n k).text, .slice none 0 0]) ∧ Below w.heap.size w w' := by
  refine call_any _ v w _ _ _ _ _ _ _ fun W0 hW0 => ?_
  have hr0 := (hr.below hW0).more hW0.size
  have hE : [(⟨1, n, 1, ⟨#[]⟩⟩ : FV), ⟨1, k, 1, ⟨#[]⟩⟩].all bitB = true := by simp [bitB, btw, b1, b2, d1, d2]
  refine callOver_CallMath _ v W0 _ _ _ _ _ _ _ ?_ ?_ ?_ ?_ ?_
  · exact fun W hW => fits_Numbers _ v W _ fun W' hW' => fitsNumbers_Bitxor _ _ v W' ((((hr0.below hW).more hW.size).below hW').more hW'.size) (.inl rfl) (.inl rfl) true hE
  · exact fun W _ => stat_Bitxor v W
  · exact fun W _ => criteria_Bitxor v W
  · exact fun W _ => lookup_Bitxor v W
  · exact fun W hW => callMath_Bitxor n k v W ((hr0.below hW).more hW.size)

theorem call_Bitxor_no (x y : FV) (v : Value) (w : World) (hr : Row w w.heap.size 5 v [FV.list x, FV.list y]) (hx : x.kind = 1 ∨ x = ⟨6, 0, 0, ⟨#[]⟩⟩) (hy : y.kind = 1 ∨ y = ⟨6, 0, 0, ⟨#[]⟩⟩) (h6 : x.kind = 6 ∨ y.kind = 6) :
    Calls Tryz.prog 23 #[.string ⟨#[66, 73, 84, 88, 79, 82]⟩, v] w fun e w' => e = .returned (.agg #[.int .i64 6, .int .i64 0, .int .i64 0, .string ⟨#[]⟩, .slice none 0 0]) ∧ Below w.heap.size w w' := by
  refine call_any _ v w _ _ _ _ _ _ _ fun W0 hW0 => ?_
  have hr0 := (hr.below hW0).more hW0.size
  have hE : [x, y].all bitB = false := by rcases h6 with h | h <;> simp [bitB, h]
  exact callOver_no _ v W0 fun W hW => fits_Numbers _ v W _ fun W' hW' => fitsNumbers_Bitxor x y v W' ((((hr0.below hW).more hW.size).below hW').more hW'.size) hx hy false hE

end Go.Proofs.YtededpnjijfieaaGreatDoor
