/-
Literals of some values, and lists of some values: their elements.
-/
import Derived.Test.YtkglbccdiofnkaaGreatDoorOnes
import Derived.Test.YtkglbccdiofnkaaGreatDoorConv
namespace Go.Proofs.YtkglbccdiofnkaaGreatDoor
open Go.RowKit Go.Fl

theorem fr_two (m : Int) : (fr m).kind = 1 ∨ (fr m) = ⟨6, 0, 0, ⟨#[]⟩⟩ := by
  by_cases h : nn m ≤ 99999999999 ∧ -99999999999 ≤ nn m
  · rw [fr_in h]; exact .inl rfl
  · rw [fr_out h]; exact .inr rfl

/-- A literal of some elements. -/
theorem Row.lits (W : World) (e : TypeId) (sz : Nat) (cs : List (List Value)) (b : Nat) (hb : b = W.heap.size) (hs : ∀ x ∈ cs, x.length = sz) (a : Array Value) (ha : a = cs.flatten.toArray) :
    Row (W.alloc (.cells a e)) (W.alloc (.cells a e)).heap.size sz (.slice (some ⟨b, 0, none⟩) cs.length cs.length) cs := by
  subst hb
  subst ha
  refine ⟨_, _, rfl, Nat.le_refl _, hs, fun _ => ⟨W.heap.size, 0, rfl, by simp, fun i x hx j u hu => ?_⟩⟩
  rw [cell_of_row _ _ _ _ _ _ (heap_alloc_new W _)]
  have := flatten_get sz cs hs i x hx j u hu
  simpa using this

/-- A list of several values: an element's cells. -/
theorem IList.at_ {w : World} {l : Nat} {vs : List FV} {es : List (Nat × Value)} (h : IList w l vs es) (i : Nat) (x : FV) (hx : vs[i]? = some x) :
    ∃ e g, Inner x g ∧ es[i]? = some (e, .iface 71 (.agg #[.string ⟨#[]⟩, .float .f64 g.num, .string g.str, .slice none 0 0, .slice none 0 0, .bool g.bool, .string g.err, .int .u8 g.type, .pointer none, .pointer none])) ∧
      w.heap[e]? = some (.cells #[.pointer (some ⟨nx l es (i + 1), 0, none⟩), .pointer (some ⟨pv l es i, 0, none⟩), .pointer (some ⟨l, 0, none⟩), .iface 71 (.agg #[.string ⟨#[]⟩, .float .f64 g.num, .string g.str, .slice none 0 0, .slice none 0 0, .bool g.bool, .string g.err, .int .u8 g.type, .pointer none, .pointer none])] 89) := by
  have hl := h.len
  have hi : i < es.length := by
    have := (List.getElem?_eq_some_iff.1 hx).1
    omega
  obtain ⟨p, hp⟩ : ∃ p, es[i]? = some p := ⟨_, List.getElem?_eq_getElem hi⟩
  obtain ⟨g, hg, hpv⟩ := h.vals i x p hx hp
  obtain ⟨e, v⟩ := p
  subst hpv
  exact ⟨e, g, hg, hp, h.ring.elem i e _ hp⟩

end Go.Proofs.YtkglbccdiofnkaaGreatDoor
