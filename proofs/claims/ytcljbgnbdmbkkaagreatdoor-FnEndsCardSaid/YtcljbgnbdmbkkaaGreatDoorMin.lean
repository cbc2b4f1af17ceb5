/-
'math.Min' of two numbers of sixteenths.
-/
import Derived.Test.YtcljbgnbdmbkkaaGreatDoorConv
import Derived.Laws.Externs
namespace Go.Proofs.YtcljbgnbdmbkkaaGreatDoor
open Go.RowKit Go.Fl

theorem run_archMin (x y : Nat) {a b : Int} (hx : Sx x a) (hy : Sx y b) : ∃ r, Sx r (min a b) ∧ ∀ w : World, (callFunc 241 #[.float .f64 x, .float .f64 y]).run Tryz.prog w = .ok (.value (.float .f64 r)) w := by
  have ho := hx.order hy
  have hx2 := hx
  have hy2 := hy
  obtain ⟨s, k, p, hr, e1, _⟩ := hx2
  obtain ⟨t, l, q, hr', e2, _⟩ := hy2
  have hd : FloatKind.f64.decode x = .number s k (-1074 + (p : Int)) := hr
  have hd' : FloatKind.f64.decode y = .number t l (-1074 + (q : Int)) := hr'
  have key : ∀ (h1 : Nat → Nat → Sem Value) (h2 : Array Value → Sem Value), Extern.MathDim.pick.match_1 (fun _ => Sem Value) #[Value.float .f64 x, Value.float .f64 y] h1 h2 = h1 x y := fun _ _ => rfl
  have ho' : (Ieee.Datum.number s k (-1074 + (p : Int))).order (.number t l (-1074 + (q : Int))) = some (compare a b) := by
    rw [← hr, ← hr']; exact ho
  refine ⟨if (Ieee.Datum.number s k (-1074 + (p : Int))).isZero && (Ieee.Datum.number t l (-1074 + (q : Int))).isZero then (if s == true then x else y) else if (compare a b == .lt) then x else y, ?_, fun w => ?_⟩
  · by_cases hz : ((Ieee.Datum.number s k (-1074 + (p : Int))).isZero && (Ieee.Datum.number t l (-1074 + (q : Int))).isZero) = true
    · rw [if_pos hz]
      have hk : k = 0 := by
        cases k with
        | zero => rfl
        | succ n => simp [Ieee.Datum.isZero] at hz
      have hl : l = 0 := by
        cases l with
        | zero => rfl
        | succ n => simp [Ieee.Datum.isZero] at hz
      subst hk hl
      have h0 : ∀ (u : Bool) (m : Nat), Ieee.signed u 0 m = 0 := fun u m => by unfold Ieee.signed; simp
      rw [h0] at e1 e2
      have hT := T_posI
      have ha : a = 0 := by
        rcases Int.mul_eq_zero.1 e1.symm with h | h
        · exact h
        · omega
      have hb : b = 0 := by
        rcases Int.mul_eq_zero.1 e2.symm with h | h
        · exact h
        · omega
      subst ha hb
      split
      · exact hx
      · exact hy
    · rw [if_neg hz]
      by_cases hlt : a < b
      · have : (compare a b == .lt) = true := by simp [Int.compare_eq_lt.2 hlt]
        rw [if_pos this, Int.min_eq_left (by omega)]
        exact hx
      · have : ¬ (compare a b == .lt) = true := by
          intro h
          have h2 : compare a b = .lt := by simpa using h
          exact hlt (Int.compare_eq_lt.1 h2)
        rw [if_neg this, Int.min_eq_right (by omega)]
        exact hy
  · rw [run_callFunc_extern (e := Extern.MathDim.pick "math.archMin" true .lt) Tryz.func241 (by kernel_rfl) (by kernel_rfl) (by kernel_rfl) (by kernel_rfl)]
    delta Extern.MathDim.pick
    rw [key]
    simp only [hd, hd', ho']
    rfl

theorem min_any (x y : Nat) (a b : Int) (w : World) (hx : Sx x a) (hy : Sx y b) :
    Calls Tryz.prog 158 #[.float .f64 x, .float .f64 y] w fun e w' => (∃ z, Sx z (min a b) ∧ e = .returned (.float .f64 z)) ∧ Below w.heap.size w w' := by
  obtain ⟨r, hr, hrun⟩ := run_archMin x y hx hy
  have HR := Lib.hid hr
  clear hr
  go_enter Tryz.func158, Tryz.ntmps158
  go_wp2
  go_ret
  exact ⟨⟨_, HR.out, rfl⟩, Below.refl _ _⟩

end Go.Proofs.YtcljbgnbdmbkkaaGreatDoor
