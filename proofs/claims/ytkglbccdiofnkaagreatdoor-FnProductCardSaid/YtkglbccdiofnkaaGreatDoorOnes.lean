/-
A list of one value, a float cut to a whole number, a value of the package out of an interface.
-/
import Derived.Test.YtkglbccdiofnkaaGreatDoorOut
import Derived.Test.YtkglbccdiofnkaaGreatDoorOver
namespace Go.Proofs.YtkglbccdiofnkaaGreatDoor
open Go.RowKit Go.Fl

theorem Ring.alloc {w : World} {l : Nat} {es : List (Nat × Value)} (h : Ring w l es) (o : Obj) : Ring (w.alloc o) l es := h.below ((Below.refl _ _).alloc (Nat.le_refl _) _)

/-- A list of one value: its element's cells. -/
theorem IList.one {w : World} {l : Nat} {x : FV} {es : List (Nat × Value)} (h : IList w l [x] es) :
    ∃ e g, es = [(e, .iface 71 (.agg #[.string ⟨#[]⟩, .float .f64 g.num, .string g.str, .slice none 0 0, .slice none 0 0, .bool g.bool, .string g.err, .int .u8 g.type, .pointer none, .pointer none]))] ∧ Inner x g ∧ nx l es 0 = e ∧ pv l es es.length = e ∧
      w.heap[e]? = some (.cells #[.pointer (some ⟨l, 0, none⟩), .pointer (some ⟨l, 0, none⟩), .pointer (some ⟨l, 0, none⟩), .iface 71 (.agg #[.string ⟨#[]⟩, .float .f64 g.num, .string g.str, .slice none 0 0, .slice none 0 0, .bool g.bool, .string g.err, .int .u8 g.type, .pointer none, .pointer none])] 89) := by
  have hl := h.len
  match es, hl with
  | [p], _ =>
    obtain ⟨g, hg, hp⟩ := h.vals 0 x p rfl rfl
    obtain ⟨e, v⟩ := p
    subst hp
    exact ⟨e, g, rfl, hg, rfl, rfl, h.ring.elem 0 e _ rfl⟩

theorem conv_sx {y : Nat} {m : Int} (h : Sx y m) (h1 : m < 9007199254740992) (h2 : -9007199254740992 < m) (w : World) :
    (convert 46 3 (.float .f64 y)).run Tryz.prog w = .ok (.int .i64 (m.tdiv 16)) w := by
  refine run_convert_float_int w 46 3 .f64 .i64 y (m.tdiv 16) (by rw [Tryz.underlying46]; rfl) Tryz.underlying3 ?_
  have ht : (FloatKind.f64.decode y).toInt .zero = some (m.tdiv 16) := Sx.trunc h
  unfold floatToIntVal
  rw [ht]
  have hb : IntKind.min .i64 ≤ m.tdiv 16 ∧ m.tdiv 16 ≤ IntKind.max .i64 := by
    rw [tdiv_of]
    have e1 : IntKind.min .i64 = -9223372036854775808 := by decide
    have e2 : IntKind.max .i64 = 9223372036854775807 := by decide
    rw [e1, e2]
    split <;> constructor <;> omega
  simp only [hb, and_self, if_true]

theorem assertArg (v : Value) (w : World) : (Instr.typeAssert (.iface 71 v) 20 71 false).run Tryz.prog w = .ok v w := by kernel_rfl

end Go.Proofs.YtkglbccdiofnkaaGreatDoor
