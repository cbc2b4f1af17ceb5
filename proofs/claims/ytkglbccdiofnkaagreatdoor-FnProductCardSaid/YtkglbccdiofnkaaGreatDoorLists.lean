/-
Arguments that are lists of truths or of whole numbers: what they hold, and that they read alike behind the call.
-/
import Derived.Test.YtkglbccdiofnkaaGreatDoorRow
import Derived.ProofKit
import Derived.ReadAgain
import Derived.Deep.Grids
import Derived.OpenShut
namespace Go.Proofs.YtkglbccdiofnkaaGreatDoor
open Go.RowKit Go.ChangeShapes Go.WideShapes

theorem kids : Kids Tryz.prog (· < Tryz.prog.types.size) := kids_rows (by kernel_rfl) (by kernel_rfl)
theorem full : ∀ t e, t < Tryz.prog.types.size → Tryz.prog.underlying t = some (.slice e) → 0 < Tryz.prog.cellsOf e := slices_full_of Tryz.prog (by kernel_rfl)

/-- An argument reads behind the call as it did. -/
theorem trod_again {H : Type} {enc : TypeId × Value → H} {W W' : World} {t : TypeId} {v : Value} {d : DataW H} {ps : List MemPlace} (hT : t < Tryz.prog.types.size)
    (hB : Below W.heap.size W W') (h : DataW.Trod enc Tryz.prog W 0 (fun _ => true) true t v d ps) : DataW.Trod enc Tryz.prog W' 0 (fun b => decide (b < W.heap.size)) true t v d ps := by
  have hlt : ∀ p ∈ ps, p.block < W.heap.size := by
    obtain ⟨n, hn⟩ := h
    exact DataW.trod_lt n _ _ _ hn
  have h2 : DataW.Trod enc Tryz.prog W' 0 (fun _ => true) true t v d ps := by
    obtain ⟨n, hn⟩ := h
    exact ⟨n, DataW.trod_carry n _ _ _ hn (fun p hp => hB.same (hlt p hp))⟩
  exact h2.respare kids full hT (fun p hp => by simpa using hlt p hp)

theorem row_bools {H : Type} {enc : TypeId × Value → H} {W : World} {a : Option Addr} {len cap : Nat} {d : DataW H} {ps : List MemPlace} (h : DataW.Trod enc Tryz.prog W 0 (fun _ => true) true 165 (.slice a len cap) d ps) :
    ∃ bs : List Bool, Row W W.heap.size 1 (.slice a len cap) (bs.map fun b => [Value.bool b]) := by
  obtain ⟨fuel, hf⟩ := h
  rcases Go.Deep.open_bools Tryz.underlying165 Tryz.underlying4 (by kernel_rfl) hf with ⟨hcs, _⟩ | ⟨a', len', cap', B, hcs, _, hl, _, _, hcell⟩
  · simp [Value.cells] at hcs
    obtain ⟨rfl, rfl, rfl⟩ := hcs
    exact ⟨[], Row.nil_ _ _ _⟩
  · simp [Value.cells] at hcs
    obtain ⟨rfl, rfl, rfl⟩ := hcs
    refine ⟨(List.range len).map B, some a', cap, by simp, by simpa using hl, ?_, fun h0 => ?_⟩
    · intro x hx
      simp at hx
      obtain ⟨i, _, rfl⟩ := hx
      rfl
    · have h00 : 0 < len := by simpa using h0
      obtain ⟨g, o, spot⟩ := a'
      have hspot : spot = none := by simpa [Addr.add] using World.cell?_spot (hcell 0 (by omega))
      subst hspot
      refine ⟨g, o, rfl, World.block_lt_of_cell? _ _ (hcell 0 (by omega)), fun i x hx j u hu => ?_⟩
      have hi : i < len := by have := (List.getElem?_eq_some_iff.1 hx).1; simpa using this
      have hx' : [Value.bool (B i)] = x := by simpa [hi] using hx
      subst hx'
      have hj : j = 0 := by have := (List.getElem?_eq_some_iff.1 hu).1; simpa using this
      subst hj
      have hu' : Value.bool (B i) = u := by simpa using hu
      subst hu'
      have := hcell i (by omega)
      rw [add_plain] at this
      simpa using this

theorem row_ints {H : Type} {enc : TypeId × Value → H} {W : World} {a : Option Addr} {len cap : Nat} {d : DataW H} {ps : List MemPlace} (h : DataW.Trod enc Tryz.prog W 0 (fun _ => true) true 169 (.slice a len cap) d ps) :
    ∃ ns : List Int, Row W W.heap.size 1 (.slice a len cap) (ns.map fun n => [Value.int .i64 n]) := by
  obtain ⟨fuel, hf⟩ := h
  rcases Go.ChangeShapes.open_ints Tryz.underlying169 Tryz.underlying3 (by kernel_rfl) hf with ⟨hcs, _⟩ | ⟨a', len', cap', zs, hcs, _, hl, _, hz, _, hcell, _⟩
  · simp [Value.cells] at hcs
    obtain ⟨rfl, rfl, rfl⟩ := hcs
    exact ⟨[], Row.nil_ _ _ _⟩
  · simp [Value.cells] at hcs
    obtain ⟨rfl, rfl, rfl⟩ := hcs
    simp only [if_true] at hz
    refine ⟨(List.range len).map fun i => zs.getD i 0, some a', cap, by simp, by simpa using hl, ?_, fun h0 => ?_⟩
    · intro x hx
      simp at hx
      obtain ⟨i, _, rfl⟩ := hx
      rfl
    · have h00 : 0 < len := by simpa using h0
      obtain ⟨g, o, spot⟩ := a'
      have hspot : spot = none := by simpa [Addr.add] using World.cell?_spot (hcell 0 (by omega))
      subst hspot
      refine ⟨g, o, rfl, World.block_lt_of_cell? _ _ (hcell 0 (by omega)), fun i x hx j u hu => ?_⟩
      have hi : i < len := by have := (List.getElem?_eq_some_iff.1 hx).1; simpa using this
      have hx' : [Value.int .i64 (zs.getD i 0)] = x := by simpa [hi] using hx
      subst hx'
      have hj : j = 0 := by have := (List.getElem?_eq_some_iff.1 hu).1; simpa using this
      subst hj
      have hu' : Value.int .i64 (zs.getD i 0) = u := by simpa using hu
      subst hu'
      have := hcell i (by omega)
      rw [add_plain] at this
      simpa using this

end Go.Proofs.YtkglbccdiofnkaaGreatDoor
