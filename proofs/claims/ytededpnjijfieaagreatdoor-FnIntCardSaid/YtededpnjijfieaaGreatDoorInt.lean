/-
The package's INT, over math's Modf.
-/
import Derived.Test.YtededpnjijfieaaGreatDoorIsodd
import Derived.Test.YtededpnjijfieaaGreatDoorTrunc
import Derived.Laws.Externs
namespace Go.Proofs.YtededpnjijfieaaGreatDoor
open Go.RowKit Go.Fl

theorem run_f64bits (y : Nat) (w : World) : (callFunc 243 #[.float .f64 y]).run Tryz.prog w = .ok (.value (.int .u64 y)) w := by
  rw [run_callFunc_extern (e := Extern.MathFloatBits.float64bits) Tryz.func243 (by kernel_rfl) (by kernel_rfl) (by kernel_rfl) (by kernel_rfl)]
  rfl
theorem run_f64frombits (n : Int) (w : World) : (callFunc 242 #[.int .u64 n]).run Tryz.prog w = .ok (.value (.float .f64 n.toNat)) w := by
  rw [run_callFunc_extern (e := Extern.MathFloatBits.float64frombits) Tryz.func242 (by kernel_rfl) (by kernel_rfl) (by kernel_rfl) (by kernel_rfl)]
  rfl
theorem run_archTrunc (y : Nat) {m : Int} (h : Sx y m) (w : World) : (callFunc 240 #[.float .f64 y]).run Tryz.prog w = .ok (.value (.float .f64 (Ieee.double.write ((Ieee.double.read y).integral .zero)))) w := by
  rw [run_callFunc_extern (e := Extern.MathFloor.toIntegral "math.archTrunc" .zero) Tryz.func240 (by kernel_rfl) (by kernel_rfl) (by kernel_rfl) (by kernel_rfl)]
  obtain ⟨s, k, p, hr, _, _⟩ := h
  have hd : FloatKind.f64.decode y = .number s k (-1074 + (p : Int)) := hr
  have key : ∀ (h1 : Nat → Sem Value) (h2 : Array Value → Sem Value), Extern.MathFloor.toIntegral.match_2 (fun _ => Sem Value) #[Value.float .f64 y] h1 h2 = h1 y := fun _ _ => rfl
  rw [hr]
  delta Extern.MathFloor.toIntegral
  rw [key, hd]
  rfl

theorem trunc_any (y : Nat) (m : Int) (w : World) (h : Sx y m) (h1 : m < 9007199254740992) (h2 : -9007199254740992 < m) :
    Calls Tryz.prog 158 #[.float .f64 y] w fun e w' => (∃ z, Sx z (16 * m.tdiv 16) ∧ e = .returned (.float .f64 z)) ∧ Below w.heap.size w w' := by
  have hs := Lib.hid (Sx.integral h h1 h2)
  have hx := run_archTrunc y h
  clear h
  go_enter Tryz.func158, Tryz.ntmps158
  go_wp2
  go_ret
  exact ⟨⟨_, hs.out, rfl⟩, Below.refl _ _⟩

theorem bits_sign (u x : Nat) : (bits .or .u64 (bits .andNot .u64 (u : Int) 9223372036854775808) (bits .and .u64 (x : Int) 9223372036854775808)).toNat = ((BitVec.ofInt 64 (u : Int) &&& ~~~ 9223372036854775808#64) ||| (BitVec.ofInt 64 (x : Int) &&& 9223372036854775808#64)).toNat := by
  have h : ∀ Z : BitVec 64, IntKind.u64.wrap (Z.toNat : Int) = (Z.toNat : Int) := fun Z => by
    rw [IntKind.wrap_u64]; have := Z.isLt; omega
  have h2 : ∀ Z : BitVec 64, BitVec.ofInt 64 (Z.toNat : Int) = Z := fun Z => by
    rw [BitVec.ofInt_natCast]; exact BitVec.eq_of_toNat_eq (by simp)
  have e1 : bits .andNot .u64 (u : Int) 9223372036854775808 = ((BitVec.ofInt 64 (u : Int) &&& ~~~ 9223372036854775808#64).toNat : Int) := h _
  have e2 : bits .and .u64 (x : Int) 9223372036854775808 = ((BitVec.ofInt 64 (x : Int) &&& 9223372036854775808#64).toNat : Int) := h _
  rw [e1, e2]
  show (IntKind.u64.wrap ((BitVec.ofInt 64 _ ||| BitVec.ofInt 64 _).toNat : Int)).toNat = _
  rw [h2, h2, h, Int.toNat_natCast]

theorem copysign_any (u x : Nat) (c m : Int) (w : World) (hu : Sx u c) (hx : Sx x m) (hs : c ≠ 0 → m ≠ 0 ∧ (c < 0 ↔ m < 0)) :
    Calls Tryz.prog 159 #[.float .f64 u, .float .f64 x] w fun e w' => (∃ z, Sx z c ∧ e = .returned (.float .f64 z)) ∧ Below w.heap.size w w' := by
  have e1 := run_f64bits
  have e2 := run_f64frombits
  obtain ⟨z, hz, hz1, hz2⟩ := sign_bits u x
  have HZ : Hid (Sx z c) := Sx.resign hu hx hz1 hz2 hs
  have hb := bits_sign u x
  rw [hz] at hb
  have HB := Lib.hid hb
  clear hz hz1 hz2 hs hu hx hb
  go_enter Tryz.func159, Tryz.ntmps159
  go_wp2
  go_ret
  exact ⟨⟨_, by rw [HB.out]; exact HZ.out, rfl⟩, Below.refl _ _⟩

theorem modf_any (y : Nat) (m : Int) (w : World) (h : Sx y m) (h1 : m < 9007199254740992) (h2 : -9007199254740992 < m) :
    Calls Tryz.prog 77 #[.float .f64 y] w fun e w' => (∃ a b, Sx a (16 * m.tdiv 16) ∧ Sx b (m.tmod 16) ∧ e = .returned (.tuple #[.float .f64 a, .float .f64 b])) ∧ Below w.heap.size w w' := by
  have HY := Lib.hid h
  clear h
  have hmod : m - 16 * m.tdiv 16 = m.tmod 16 := by rw [tdiv_of, tmod_of]; split <;> omega
  have hbd : m.tmod 16 < 16 ∧ -16 < m.tmod 16 := by rw [tmod_of]; split <;> omega
  go_enter Tryz.func77, Tryz.ntmps77
  go_wp2_with (first
    | (go_at_call 158; refine (trunc_any y m _ HY.out h1 h2).mono ?_; rintro e w1 ⟨⟨z, hz, rfl⟩, hb1⟩; have HZ := Lib.hid hz; obtain ⟨d, hd, hsd⟩ := Sx.sub HY.out hz (by omega) (by omega); have HD := Lib.hid hsd; have hq : ∀ w, (binOp .sub 41 (.float .f64 y) (.float .f64 z)).run Tryz.prog w = .ok (.float .f64 d) w := (fun w => run_float_arith w .sub _ .f64 _ _ _ hd); clear hz hsd)
    | (go_at_call 159; refine (copysign_any _ _ _ m _ HD.out HY.out (by rw [hmod, tmod_of]; split <;> omega)).mono ?_; rintro e w2 ⟨⟨z2, hz2, rfl⟩, hb2⟩; have HZ2 := Lib.hid hz2; clear hz2))
  go_ret2
  exact ⟨⟨_, _, HZ.out, by rw [← hmod]; exact HZ2.out, rfl⟩, hb1.trans (hb2.mono hb1.size)⟩

end Go.Proofs.YtededpnjijfieaaGreatDoor
