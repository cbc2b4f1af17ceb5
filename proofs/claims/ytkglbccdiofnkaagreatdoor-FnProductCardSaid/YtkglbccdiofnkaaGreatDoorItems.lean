/-
Arguments that are lists of cells as plain data: what they hold, and that they read alike behind the call.
-/
import Derived.Test.YtkglbccdiofnkaaGreatDoorLists
import Derived.Test.YtkglbccdiofnkaaGreatDoorTable
import Derived.Deep.Slices
import Derived.Deep.Fields
import Derived.ChangeSame
namespace Go.Proofs.YtkglbccdiofnkaaGreatDoor
open Go.RowKit Go.ChangeShapes Go.WideShapes Go.Deep

theorem itemCells : Tryz.prog.cellsOf 40 = 3 := by kernel_rfl
theorem intCells : Tryz.prog.cellsOf 3 = 1 := by kernel_rfl
theorem strCells : Tryz.prog.cellsOf 9 = 1 := by kernel_rfl


set_option maxRecDepth 100000 in
theorem item_cells {H : Type} {enc : TypeId × Value → H} {W : World} {base n : Nat} {spare : Nat → Bool} {held : Bool} {cs : List Value} {x : DataW H × List MemPlace} (h : DataW.trod enc Tryz.prog W base spare held n 40 cs = some x) :
    ∃ it : It, cs = it.list := by
  have e := Tryz.underlying40
  obtain ⟨xs, m, _, _, hlen, hxl, hf⟩ := DataW.trod_struct e h
  have hxl3 : xs.length = 3 := hxl
  have hlen3 : cs.length = 3 := hlen.trans itemCells
  match cs, hlen3 with
  | [c0, c1, c2], _ =>
    have g0 := hf 0 _ rfl
    have g1 := hf 1 _ rfl
    have g2 := hf 2 _ rfl
    rw [List.getElem?_eq_getElem (by omega)] at g0 g1 g2
    obtain ⟨a, ha, _⟩ := DataW.trod_int Tryz.underlying3 g0
    obtain ⟨b, hb, _⟩ := DataW.trod_int Tryz.underlying3 g1
    obtain ⟨t, ht, _⟩ := DataW.trod_string Tryz.underlying9 g2
    have ea : c0 = .int .i64 a := by
      have : ([c0, c1, c2].drop 0).take (Tryz.prog.cellsOf 3) = [.int .i64 a] := ha
      rw [intCells] at this
      simpa using this
    have eb : c1 = .int .i64 b := by
      have : ([c0, c1, c2].drop 1).take (Tryz.prog.cellsOf 3) = [.int .i64 b] := hb
      rw [intCells] at this
      simpa using this
    have et : c2 = .string t := by
      have : ([c0, c1, c2].drop 2).take (Tryz.prog.cellsOf 9) = [.string t] := ht
      rw [strCells] at this
      simpa using this
    exact ⟨⟨a, b, t⟩, by rw [ea, eb, et]; rfl⟩

theorem row_items {H : Type} {enc : TypeId × Value → H} {W : World} {a : Option Addr} {len cap : Nat} {d : DataW H} {ps : List MemPlace} (h : DataW.Trod enc Tryz.prog W 0 (fun _ => true) true 22 (.slice a len cap) d ps) :
    ∃ its : List It, Row W W.heap.size 3 (.slice a len cap) (its.map It.list) := by
  obtain ⟨fuel, hf⟩ := h
  rcases Go.Deep.open_slice Tryz.underlying22 hf with ⟨hcs, _⟩ | ⟨a', len', cap', m, n, D, Pl, hcs, _, hl, _, hm, _, hi⟩
  · simp [Value.cells] at hcs
    obtain ⟨rfl, rfl, rfl⟩ := hcs
    exact ⟨[], Row.nil_ _ _ _⟩
  · simp [Value.cells] at hcs
    obtain ⟨rfl, rfl, rfl⟩ := hcs
    simp only [if_true] at hm
    subst hm
    rw [itemCells] at hi
    have key : ∀ i, i < len → ∃ it : It, ∀ j u, it.list[j]? = some u → W.cell? (a'.add (i * 3 + j)) = some u := by
      intro i hil
      obtain ⟨cs', hc, ht⟩ := hi i (by omega)
      obtain ⟨it, rfl⟩ := item_cells ht
      obtain ⟨_, hcl, hat⟩ := World.cells?_some hc
      refine ⟨it, fun j u hu => ?_⟩
      have hj : j < 3 := by have := (List.getElem?_eq_some_iff.1 hu).1; simpa [It.list] using this
      have := hat j hj
      rw [Go.Deep.add_add] at this
      rw [this, hu]
    obtain ⟨F, hF⟩ : ∃ F : Nat → It, ∀ i, i < len → ∀ j u, (F i).list[j]? = some u → W.cell? (a'.add (i * 3 + j)) = some u := by
      refine ⟨fun i => if h : i < len then Classical.choose (key i h) else ⟨0, 0, ⟨#[]⟩⟩, fun i hil => ?_⟩
      simp only [dif_pos hil]
      exact Classical.choose_spec (key i hil)
    refine ⟨(List.range len).map F, some a', m, by simp, by simpa using hl, ?_, fun h0 => ?_⟩
    · intro x hx
      simp at hx
      obtain ⟨i, _, rfl⟩ := hx
      rfl
    · have h00 : 0 < len := by simpa using h0
      obtain ⟨g, o, spot⟩ := a'
      have h1 := hF 0 h00 0 _ rfl
      have hspot : spot = none := by simpa [Addr.add] using World.cell?_spot h1
      subst hspot
      refine ⟨g, o, rfl, World.block_lt_of_cell? _ _ h1, fun i x hx j u hu => ?_⟩
      have hil : i < len := by have := (List.getElem?_eq_some_iff.1 hx).1; simpa using this
      have hx' : (F i).list = x := by simpa [hil] using hx
      subst hx'
      have := hF i hil j u hu
      rw [add_plain] at this
      rwa [← Nat.add_assoc] at this

end Go.Proofs.YtkglbccdiofnkaaGreatDoor
