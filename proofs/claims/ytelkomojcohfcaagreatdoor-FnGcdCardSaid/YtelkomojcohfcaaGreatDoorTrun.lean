/-
'math.Trunc'.
-/
import Derived.Test.YtelkomojcohfcaaGreatDoorTrunc
import Derived.Test.YtelkomojcohfcaaGreatDoorOver
import Derived.Laws.Externs
namespace Go.Proofs.YtelkomojcohfcaaGreatDoor
open Go.RowKit Go.Fl

theorem run_archTrunc (y : Nat) {m : Int} (h : Sx y m) (w : World) : (callFunc 202 #[.float .f64 y]).run Tryz.prog w = .ok (.value (.float .f64 (Ieee.double.write ((Ieee.double.read y).integral .zero)))) w := by
  rw [run_callFunc_extern (e := Extern.MathFloor.toIntegral "math.archTrunc" .zero) Tryz.func202 (by kernel_rfl) (by kernel_rfl) (by kernel_rfl) (by kernel_rfl)]
  obtain ⟨s, k, p, hr, _, _⟩ := h
  have hd : FloatKind.f64.decode y = .number s k (-1074 + (p : Int)) := hr
  have key : ∀ (h1 : Nat → Sem Value) (h2 : Array Value → Sem Value), Extern.MathFloor.toIntegral.match_2 (fun _ => Sem Value) #[Value.float .f64 y] h1 h2 = h1 y := fun _ _ => rfl
  rw [hr]
  delta Extern.MathFloor.toIntegral
  rw [key, hd]
  rfl

theorem trunc_any (y : Nat) (m : Int) (w : World) (h : Sx y m) (h1 : m < 9007199254740992) (h2 : -9007199254740992 < m) :
    Calls Tryz.prog 114 #[.float .f64 y] w fun e w' => (∃ z, Sx z (16 * m.tdiv 16) ∧ e = .returned (.float .f64 z)) ∧ Below w.heap.size w w' := by
  have hs := Lib.hid (Sx.integral h h1 h2)
  have hx := run_archTrunc y h
  clear h
  go_enter Tryz.func114, Tryz.ntmps114
  go_wp2
  go_ret
  exact ⟨⟨_, hs.out, rfl⟩, Below.refl _ _⟩

end Go.Proofs.YtelkomojcohfcaaGreatDoor
