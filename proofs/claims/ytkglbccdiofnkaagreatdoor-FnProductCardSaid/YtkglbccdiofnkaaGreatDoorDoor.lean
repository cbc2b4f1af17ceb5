/-
The doors of the package and the functions of the thin package: they say what the package's functions say.
-/
import Derived.Test.YtkglbccdiofnkaaGreatDoorOut
import Derived.Test.YtkglbccdiofnkaaGreatDoorOver
import Derived.Test.YtkglbccdiofnkaaGreatDoorAgrees
namespace Go.Proofs.YtkglbccdiofnkaaGreatDoor
open Go.RowKit Go.Fl

def GA.dk (g : GA) : Int := if g.type = 1 then (if g.bool then 3 else 1) else if g.type = 2 then 2 else if g.type = 5 then 4 else 0
def GA.dn (g : GA) : Nat := if g.type = 1 then g.num else 0
def GA.dt (g : GA) : ByteArray := if g.type = 2 ∨ g.type = 5 then g.str else ⟨#[]⟩
def GA.plain (g : GA) : Prop := g.type = 1 ∨ g.type = 2 ∨ g.type = 5 ∨ g.type = 6

theorem doorArg_any (g : GA) (w : World) (h : g.plain) :
    Calls Tryz.prog 42 #[.agg #[.string ⟨#[]⟩, .float .f64 g.num, .string g.str, .slice none 0 0, .slice none 0 0, .bool g.bool, .string g.err, .int .u8 g.type, .pointer none, .pointer none]] w fun e w' => e = .returned (.agg #[.int .i64 g.dk, .float .f64 g.dn, .string g.dt, .slice none 0 0]) ∧ Below w.heap.size w w' := by
  obtain ⟨n, s, b, t, k⟩ := g
  rcases h with h | h | h | h <;> (have hk : k = _ := h; subst hk)
  · cases b
    · exact doorArg_num n s t w
    · exact doorArg_bool n s t w
  · exact doorArg_str n s t b w
  · exact doorArg_err n s t b w
  · exact doorArg_empty n s t b w

/-- The package's value is what the reference says. -/
def Match (r : FV) (g : GA) : Prop := g.plain ∧ g.dk = r.kind ∧ Sx g.dn r.six ∧ g.dt = r.text
/-- A function of the package says what the reference says. -/
def Tells (r : FV) (w : World) (e : Ending) (w' : World) : Prop := ∃ g, Match r g ∧ e = .returned (.agg #[.string ⟨#[]⟩, .float .f64 g.num, .string g.str, .slice none 0 0, .slice none 0 0, .bool g.bool, .string g.err, .int .u8 g.type, .pointer none, .pointer none]) ∧ Below w.heap.size w w'













end Go.Proofs.YtkglbccdiofnkaaGreatDoor

