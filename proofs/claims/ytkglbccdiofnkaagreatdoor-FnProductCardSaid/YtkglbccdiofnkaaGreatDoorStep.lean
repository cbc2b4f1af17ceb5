/-
append of one element as a step of a region that draws its order.
-/
import Derived.Test.YtkglbccdiofnkaaGreatDoorRow
import Derived.Deep.RegionLaw
namespace Go.Proofs.YtkglbccdiofnkaaGreatDoor
open Go.RowKit

theorem Below.drewN {B : Nat} {a w : World} (h : Below B a w) (n : Nat) : Below B a (w.drewN n) := ⟨h.os, h.tape, h.output, h.size, h.block⟩

theorem Below.ofDrew {w w' : World} {B : Nat} (h : Below B w.drew w') : Below B w w' := ⟨h.os, h.tape, h.output, h.size, h.block⟩

theorem step_app_one {P : Program} {ops : Array Oper} {o : Oper} {a : Act} {W : World} {K : Act → World → Prop} {Q : Exit → Act → World → Prop} {E : Prop}
    (base : Nat) (hgd : o.guard = none) (s x : Operand) (t e : TypeId) (z : Value) (size bytes : Nat)
    (ho : o.op = .call { callee := .builtin .append, args := #[s, x], argTypes := #[t, t] })
    (ht : P.underlying t = some (.slice e)) (hinfo : (P.info? e).map (fun i => (i.zero, i.size, i.bytes)) = some (some z, size, bytes)) (hz : z.cells.size = size) (hs0 : 0 < size) (hb0 : 0 < bytes)
    (v : Value) (cs : List (List Value)) (ys : List Value) (hs : a.eval s = v) {b : Nat} (hx : a.eval x = .slice (some ⟨b, 0, none⟩) 1 1) (hys : ys.length = size) (h1 : ∀ u ∈ ys, u.oneCell' = true) (hbk : b = W.heap.size)
    (HO : Own W base e size v cs) (hbase : base ≤ W.heap.size) (hl : (cs.length + 1) * bytes ≤ 140737488355328)
    (h : ∀ g cap w1, Own w1 base e size (.slice (some ⟨g, 0, none⟩) (cs.length + 1) cap) (cs ++ [ys]) → Below base W w1 → W.grownBy w1 v.ownBlock → ((Value.slice (some ⟨g, 0, none⟩) (cs.length + 1) cap).ownBlock = v.ownBlock ∨ ∀ b, (Value.slice (some ⟨g, 0, none⟩) (cs.length + 1) cap).ownBlock = some b → W.heap.size ≤ b) → K (a.put o.dst (.slice (some ⟨g, 0, none⟩) (cs.length + 1) cap)) w1) :
    if Region.wanted o (yielded ops a.tmps) = true then Oper.wp P o a (W.alloc (.cells ys.toArray e)) K Q else E := by
  subst hbk
  obtain ⟨i0, hi, hzz⟩ := Option.map_eq_some_iff.1 hinfo
  simp only [Prod.mk.injEq] at hzz
  obtain ⟨hz0, hz1, hz2⟩ := hzz
  have hlen : cs.length + 1 ≤ 140737488355328 := Nat.le_trans (Nat.le_mul_of_pos_right _ hb0) hl
  refine step_append_lies (w := W.alloc (.cells ys.toArray e)) hgd s x t ho base e i0 z size bytes ht hi hz0 hz1 hz2 hz hs0 v cs.length cs.flatten hs (HO.1.alloc _) ⟨W.heap.size, 0, none⟩ 1 1 ys hx (by rw [hys, Nat.one_mul])
    (by simpa using World.news_of_block (cs := ys.toArray) (t := e) (fr := (0, 0)) (heap_alloc_new W (.cells ys.toArray e))) h1 (by omega) (by simp only [maxLen]; omega) hl (by simp; omega) (W.heap.size + 1) (by simp) ?_
  intro g cap w1 hown hg hat _
  refine h g cap w1 ⟨by simpa using hown, ?_⟩ (((Below.refl base W).alloc hbase _).grown hg (by simp; omega) (own_base HO.1)) (World.grownBy.trans (World.grownBy_alloc W _ _) hg) ?_
  · intro y hy
    rcases List.mem_append.1 hy with hy | hy
    · exact HO.2 y hy
    · simp at hy; subst hy; exact hys
  · rcases hat with h | h
    · exact .inl h.symm
    · refine .inr fun b hb => ?_
      have e : g = b := by simpa [Value.ownBlock] using hb
      omega

/-- A block of the call's own below the slice's, behind the append. -/
theorem box_kept {W w1 : World} {base g : Nat} {o : Obj} (hg : W.heap[g]? = some o) (hlt : g < base) (hb : Below base W w1) : w1.heap[g]? = some o := (hb.block g hlt).trans hg

end Go.Proofs.YtkglbccdiofnkaaGreatDoor
