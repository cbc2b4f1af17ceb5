/-
Slices whose elements are several cells wide: what they read as, while the world grows.
-/
import Derived.Test.YtkglbccdiofnkaaGreatDoorBase
import Derived.Maps.AppendAt
import Derived.Deep.AppendLies
import Derived.OwnWalk
import Derived.LoopTactic
import Derived.Deep.LoopGhost
import Derived.Deep.MidRow
import Derived.Laws.OwnMore
import Derived.Laws.Rows
namespace Go.Proofs.YtkglbccdiofnkaaGreatDoor
open Go.RowKit

theorem run_store_float (P : Program) (w : World) (a : Addr) (m : Mode) (k : FloatKind) (b : Nat) : (store a (.float k b) m).run P w = stored P w a (.float k b) m := run_store P w a _ m rfl
attribute [go_sem] run_store_float

/-- The slice value v reads as the elements cs, each of sz cells, in blocks below B. -/
def Row (w : World) (B sz : Nat) (v : Value) (cs : List (List Value)) : Prop :=
  ∃ A c, v = .slice A cs.length c ∧ cs.length ≤ c ∧ (∀ x ∈ cs, x.length = sz) ∧
    (0 < cs.length → ∃ g o, A = some ⟨g, o, none⟩ ∧ g < B ∧ ∀ i x, cs[i]? = some x → ∀ j u, x[j]? = some u → w.cell? ⟨g, o + i * sz + j, none⟩ = some u)

section
variable {w w' : World} {B B' sz : Nat} {v : Value} {cs : List (List Value)}

theorem Row.keep (h : Row w B sz v cs) (hk : ∀ p : Addr, p.block < B → w'.cell? p = w.cell? p) : Row w' B sz v cs := by
  obtain ⟨A, c, h1, h2, h3, h4⟩ := h
  refine ⟨A, c, h1, h2, h3, fun h0 => ?_⟩
  obtain ⟨g, o, hA, hg, hc⟩ := h4 h0
  exact ⟨g, o, hA, hg, fun i x hx j u hu => (hk _ hg).trans (hc i x hx j u hu)⟩
theorem Row.more (h : Row w B sz v cs) (hB : B ≤ B') : Row w B' sz v cs := by
  obtain ⟨A, c, h1, h2, h3, h4⟩ := h
  refine ⟨A, c, h1, h2, h3, fun h0 => ?_⟩
  obtain ⟨g, o, hA, hg, hc⟩ := h4 h0
  exact ⟨g, o, hA, Nat.lt_of_lt_of_le hg hB, hc⟩
theorem Row.below (h : Row w B sz v cs) (hb : Below B w w') : Row w' B sz v cs := h.keep fun _ hp => hb.cell hp
theorem Row.drew (h : Row w B sz v cs) : Row w.drew B sz v cs := h
theorem Row.drewN (h : Row w B sz v cs) (n : Nat) : Row (w.drewN n) B sz v cs := h
theorem Row.alloc (h : Row w B sz v cs) (hB : B ≤ w.heap.size) (o : Obj) : Row (w.alloc o) B sz v cs := h.keep fun p hp => World.cell?_alloc_lt w o p (by omega)
theorem Row.setCell (h : Row w B sz v cs) {p : Addr} (hB : B ≤ p.block) (u : Value) : Row (w.setCell p u) B sz v cs :=
  h.keep fun q hq => World.cell?_setCell_other w p q u (fun e => by subst e; omega)
theorem Row.grown (h : Row w B sz v cs) {row : Option Nat} (hg : w.grownBy w' row) (hB : B ≤ w.heap.size) (hr : ∀ g, row = some g → B ≤ g) : Row w' B sz v cs :=
  h.keep fun p hp => World.cell?_of_block (hg.block p.block (by omega) (fun e => by have := hr _ e.symm; omega))
theorem Row.nil_ (w : World) (B sz : Nat) : Row w B sz (.slice none 0 0) [] := ⟨none, 0, rfl, Nat.le_refl _, fun _ h => by simp at h, fun h => absurd h (by simp)⟩

theorem flatten_get (sz : Nat) : ∀ (cs : List (List Value)), (∀ x ∈ cs, x.length = sz) → ∀ (i : Nat) (x : List Value), cs[i]? = some x → ∀ (j : Nat) (u : Value), x[j]? = some u → cs.flatten[i * sz + j]? = some u := by
  intro cs
  induction cs with
  | nil => intro _ i x hx; simp at hx
  | cons c cs ih =>
    intro h i x hx j u hu
    have hc : c.length = sz := h c (by simp)
    rw [List.flatten_cons]
    cases i with
    | zero =>
      have : c = x := by simpa using hx
      subst this
      have hj : j < c.length := (List.getElem?_eq_some_iff.1 hu).1
      rw [Nat.zero_mul, Nat.zero_add, List.getElem?_append_left hj]
      exact hu
    | succ i =>
      have hx' : cs[i]? = some x := by simpa using hx
      rw [List.getElem?_append_right (by rw [hc, Nat.succ_mul]; omega), hc, show (i + 1) * sz + j - sz = i * sz + j by rw [Nat.succ_mul]; omega]
      exact ih (fun x hx => h x (by simp [hx])) i x hx' j u hu
theorem flatten_len (sz : Nat) : ∀ (cs : List (List Value)), (∀ x ∈ cs, x.length = sz) → cs.flatten.length = cs.length * sz := by
  intro cs
  induction cs with
  | nil => intro _; simp
  | cons c cs ih =>
    intro h
    rw [List.flatten_cons, List.length_append, ih (fun x hx => h x (by simp [hx])), h c (by simp), List.length_cons, Nat.succ_mul]
    omega

/-- What the call owns reads. -/
theorem Row.of_own {base : Nat} {e : TypeId} (h : w.ownsRow base e sz v cs.length cs.flatten) (hs : ∀ x ∈ cs, x.length = sz) : Row w w.heap.size sz v cs := by
  rcases Nat.eq_zero_or_pos cs.length with h0 | h0
  · have hn := List.eq_nil_of_length_eq_zero h0
    subst hn
    rcases h.2 with ⟨rfl, _⟩ | ⟨g, cap, cur, rfl, _⟩
    · exact Row.nil_ w _ sz
    · exact ⟨_, cap, rfl, Nat.zero_le _, hs, fun hp => absurd hp (by simp)⟩
  · obtain ⟨g, cap, rfl, hb, hlt⟩ := h.form h0
    have hcap : cs.length ≤ cap := by
      rcases h.2 with ⟨he, _⟩ | ⟨g', cap', cur, he, _, _, h1, _⟩
      · cases he
      · injection he with _ _ e3; omega
    refine ⟨_, cap, rfl, hcap, hs, fun _ => ⟨g, 0, rfl, hlt, fun i x hx j u hu => ?_⟩⟩
    have hc := h.cells (g := g) rfl _ u (flatten_get sz cs hs i x hx j u hu)
    have ha : (⟨g, 0, none⟩ : Addr).add (i * sz + j) = ⟨g, 0 + i * sz + j, none⟩ := by unfold Addr.add; split <;> simp_all
    rwa [ha] at hc
theorem own_nil (W : World) (base : Nat) (e : TypeId) (size : Nat) : W.ownsRow base e size (.slice none 0 0) 0 [] := ⟨by simp, .inl ⟨rfl, rfl⟩⟩
theorem own_base {base n : Nat} {e : TypeId} {xs : List Value} (h : w.ownsRow base e sz v n xs) (k : Nat) (hk : v.ownBlock = some k) : base ≤ k := by
  rcases h.2 with ⟨rfl, _⟩ | ⟨g, cap, cur, rfl, hb, _⟩
  · simp [Value.ownBlock] at hk
  · have : g = k := by simpa [Value.ownBlock] using hk
    omega

/-- One element of five cells, at the address as the walk spells it. -/
theorem Row.at_ (h : Row w B sz v cs) {k : Nat} {x : List Value} (hk : cs[k]? = some x) :
    ∃ g o c, v = .slice (some ⟨g, o, none⟩) cs.length c ∧ cs.length ≤ c ∧ g < B ∧ ∀ j u, x[j]? = some u → w.cell? ⟨g, o + k * sz + j, none⟩ = some u := by
  obtain ⟨A, c, h1, h2, h3, h4⟩ := h
  have hl : k < cs.length := (List.getElem?_eq_some_iff.1 hk).1
  obtain ⟨g, o, rfl, hg, hc⟩ := h4 (by omega)
  exact ⟨g, o, c, h1, h2, hg, fun j u hu => hc k x hk j u hu⟩
end

/-- A literal of one element. -/
theorem Row.lit1 (W : World) (e : TypeId) (x : List Value) (b : Nat) (hb : b = W.heap.size) : Row (W.alloc (.cells x.toArray e)) (W.alloc (.cells x.toArray e)).heap.size x.length (.slice (some ⟨b, 0, none⟩) 1 1) [x] := by
  subst hb
  refine ⟨_, 1, rfl, Nat.le_refl _, fun y hy => by simp at hy; subst hy; rfl, fun _ => ⟨W.heap.size, 0, rfl, by simp, fun i y hy j u hu => ?_⟩⟩
  have hi : i = 0 := by
    have := (List.getElem?_eq_some_iff.1 hy).1
    simpa using this
  subst hi
  have hxy : x = y := by simpa using hy
  subst hxy
  rw [cell_of_row _ _ _ _ _ _ (heap_alloc_new W (.cells x.toArray e))]
  simpa using hu

/-- What lay ahead of a call reads as it did behind it. -/
theorem bcell {W w1 : World} (hb : Below W.heap.size W w1) : (∀ b o, b < W.heap.size → w1.cell? ⟨b, o, none⟩ = W.cell? ⟨b, o, none⟩) ∧ (∀ b o, b < W.heap.size → w1.frozen? ⟨b, o, none⟩ = W.frozen? ⟨b, o, none⟩) ∧ W.heap.size ≤ w1.heap.size :=
  ⟨fun b o h => hb.cell (p := ⟨b, o, none⟩) h, fun b o h => hb.frozen (p := ⟨b, o, none⟩) h, hb.size⟩

/-- A block that is known whole ahead of a call, behind it. -/
theorem box_cells {W w1 : World} {g : Nat} {cs : Array Value} {T : TypeId} (hg : W.heap[g]? = some (.cells cs T)) (hb : Below W.heap.size W w1) :
    (∀ j, w1.cell? ⟨g, j, none⟩ = cs[j]?) ∧ (∀ j, w1.frozen? ⟨g, j, none⟩ = false) ∧ g < w1.heap.size ∧ w1.heap[g]? = some (.cells cs T) := by
  have hlt : g < W.heap.size := (Array.getElem?_eq_some_iff.1 hg).1
  have h1 : w1.heap[g]? = some (.cells cs T) := (hb.block g hlt).trans hg
  refine ⟨fun j => cell_of_row _ _ _ _ _ _ h1, fun j => ?_, Nat.lt_of_lt_of_le hlt hb.size, h1⟩
  unfold World.frozen?
  simp only [h1]
  simp
theorem heap_new1 (w : World) (o : Obj) : (w.alloc o).heap[w.heap.size]? = some o := heap_alloc_new w o
theorem heap_new2a (w : World) (A B : Obj) : ((w.alloc A).alloc B).heap[w.heap.size]? = some A := heap_alloc2_old w A B
theorem heap_new2b (w : World) (A B : Obj) : ((w.alloc A).alloc B).heap[w.heap.size + 1]? = some B := heap_alloc2_new w A B
theorem heap_new3a (w : World) (A B C : Obj) : (((w.alloc A).alloc B).alloc C).heap[w.heap.size]? = some A := by
  rw [Below.heap_alloc _ C _ (by simp; omega)]; exact heap_alloc2_old w A B
theorem heap_new3b (w : World) (A B C : Obj) : (((w.alloc A).alloc B).alloc C).heap[w.heap.size + 1]? = some B := by
  rw [Below.heap_alloc _ C _ (by simp)]; exact heap_alloc2_new w A B
theorem heap_new3c (w : World) (A B C : Obj) : (((w.alloc A).alloc B).alloc C).heap[w.heap.size + 1 + 1]? = some C := by
  have := heap_alloc_new ((w.alloc A).alloc B) C
  simpa using this

/-- A slice of the call's own, with these elements. -/
def Own (w : World) (base : Nat) (e : TypeId) (sz : Nat) (v : Value) (cs : List (List Value)) : Prop :=
  w.ownsRow base e sz v cs.length cs.flatten ∧ ∀ x ∈ cs, x.length = sz
theorem Own.nil_ (W : World) (base : Nat) (e : TypeId) (sz : Nat) : Own W base e sz (.slice none 0 0) [] := ⟨own_nil W base e sz, fun _ h => by simp at h⟩
theorem Own.row {w : World} {base : Nat} {e : TypeId} {sz : Nat} {v : Value} {cs : List (List Value)} (h : Own w base e sz v cs) : Row w w.heap.size sz v cs := Row.of_own h.1 h.2
theorem Own.alloc {w : World} {base : Nat} {e : TypeId} {sz : Nat} {v : Value} {cs : List (List Value)} (h : Own w base e sz v cs) (o : Obj) : Own (w.alloc o) base e sz v cs := ⟨h.1.alloc o, h.2⟩
theorem Own.below {w w' : World} {base : Nat} {e : TypeId} {sz : Nat} {v : Value} {cs : List (List Value)} (h : Own w base e sz v cs) (hb : Below w.heap.size w w') : Own w' base e sz v cs :=
  ⟨h.1.kept (row := none) ⟨hb.os, hb.tape, hb.output, hb.size, fun i hi _ => hb.block i hi⟩ (by cases v.ownBlock <;> simp), h.2⟩
theorem Own.len {w : World} {base : Nat} {e : TypeId} {sz : Nat} {v : Value} {cs : List (List Value)} (h : Own w base e sz v cs) : ∃ A c, v = .slice A cs.length c ∧ cs.length ≤ c := by
  obtain ⟨A, c, h1, h2, _⟩ := h.row
  exact ⟨A, c, h1, h2⟩

section
variable {P : Program} {ops : Array Oper} {rest : List Oper} {o : Oper} {a : Act} {Q : Exit → Act → World → Prop}
/-- append(v, x): behind 'at_builtin'; the goal's world is that of the new element's box. -/
theorem app_one {w0 W : World} (base : Nat) (hgd : o.guard = none) (s x : Operand) (t e : TypeId) (z : Value) (size bytes : Nat)
    (ho : o.op = .call { callee := .builtin .append, args := #[s, x], argTypes := #[t, t] })
    (ht : P.underlying t = some (.slice e)) (hinfo : (P.info? e).map (fun i => (i.zero, i.size, i.bytes)) = some (some z, size, bytes)) (hz : z.cells.size = size) (hs0 : 0 < size) (hb0 : 0 < bytes)
    (v : Value) (cs : List (List Value)) (ys : List Value) (hs : a.eval s = v) {b : Nat} (hx : a.eval x = .slice (some ⟨b, 0, none⟩) 1 1) (hys : ys.length = size) (h1 : ∀ u ∈ ys, u.oneCell' = true) (hbk : b = W.heap.size)
    (HO : Own W base e size v cs) (HB : Below base w0 W) (hbase : base ≤ W.heap.size) (hl : (cs.length + 1) * bytes ≤ 140737488355328)
    (h : ∀ v1 w1, Own w1 base e size v1 (cs ++ [ys]) → Below base w0 w1 → W.grownBy w1 v.ownBlock → wpList P ops Q rest (a.put o.dst v1) w1) :
    wpList P ops Q (o :: rest) a (W.alloc (.cells ys.toArray e)) := by
  subst hbk
  obtain ⟨i0, hi, hzz⟩ := Option.map_eq_some_iff.1 hinfo
  simp only [Prod.mk.injEq] at hzz
  obtain ⟨hz0, hz1, hz2⟩ := hzz
  have hlen : cs.length + 1 ≤ 140737488355328 := Nat.le_trans (Nat.le_mul_of_pos_right _ hb0) hl
  refine wpList_append_own_at (W.alloc (.cells ys.toArray e)) hgd s x t ho base e i0 z size bytes ht hi hz0 hz1 hz2 hz hs0 v cs.length cs.flatten hs (HO.1.alloc _) ⟨W.heap.size, 0, none⟩ 1 1 ys hx (by rw [hys, Nat.one_mul])
    (by simpa using World.news_of_block (cs := ys.toArray) (t := e) (fr := (0, 0)) (heap_alloc_new W (.cells ys.toArray e))) h1 (by simp only [maxLen]; omega) hl (by simp; omega) ?_
  intro v1 w1 hown hg _ _
  refine h v1 w1 ⟨by simpa using hown, ?_⟩ ((HB.alloc hbase _).grown hg (by simp; omega) (own_base HO.1)) (World.grownBy.trans (World.grownBy_alloc W _ _) hg)
  intro y hy
  rcases List.mem_append.1 hy with hy | hy
  · exact HO.2 y hy
  · simp at hy; subst hy; exact hys

/-- append(v, r...): behind 'at_builtin'; r reads as the elements ds (nil let in). -/
theorem app_row {w0 W : World} (base : Nat) (hgd : o.guard = none) (s x : Operand) (t e : TypeId) (z : Value) (size bytes : Nat)
    (ho : o.op = .call { callee := .builtin .append, args := #[s, x], argTypes := #[t, t] })
    (ht : P.underlying t = some (.slice e)) (hinfo : (P.info? e).map (fun i => (i.zero, i.size, i.bytes)) = some (some z, size, bytes)) (hz : z.cells.size = size) (hs0 : 0 < size) (hb0 : 0 < bytes)
    (v r : Value) (cs ds : List (List Value)) (B : Nat) (hs : a.eval s = v) (hx : a.eval x = r) (HR : Row W B size r ds) (h1 : ∀ y ∈ ds, ∀ u ∈ y, u.oneCell' = true)
    (HO : Own W base e size v cs) (HB : Below base w0 W) (hbase : base ≤ W.heap.size) (hl : (cs.length + ds.length) * bytes ≤ 140737488355328)
    (h : ∀ v1 w1, Own w1 base e size v1 (cs ++ ds) → Below base w0 w1 → W.grownBy w1 v.ownBlock → wpList P ops Q rest (a.put o.dst v1) w1) :
    wpList P ops Q (o :: rest) a W := by
  obtain ⟨i0, hi, hzz⟩ := Option.map_eq_some_iff.1 hinfo
  simp only [Prod.mk.injEq] at hzz
  obtain ⟨hz0, hz1, hz2⟩ := hzz
  have hlen : cs.length + ds.length ≤ 140737488355328 := Nat.le_trans (Nat.le_mul_of_pos_right _ hb0) hl
  obtain ⟨A, c, rfl, hc1, hc2, hc3⟩ := HR
  rcases Nat.eq_zero_or_pos ds.length with h0 | h0
  · have hn := List.eq_nil_of_length_eq_zero h0
    subst hn
    rcases A with _ | ad
    · have hrun : (Builtin.append_ #[t, t] o.type #[v, .slice none 0 c]).run P W = .ok v W := by
        rcases HO.1.2 with ⟨rfl, _⟩ | ⟨g, cap, cur, rfl, _, _, hnc, _⟩
        · simp [Builtin.append_, run_underlying ht, sizeOf, typeInfo, hi, Builtin.lenOf, Builtin.firstCells]
        · simp [Builtin.append_, run_underlying ht, sizeOf, typeInfo, hi, Builtin.lenOf, Builtin.firstCells, hnc, storeCells]
      refine wpList_plain hgd fun K hK => ?_
      unfold Oper.wp execOp
      simp only [List.length_nil] at hx
      simp only [ho, resolve, invoke, builtin, Sem.run_bind, Sem.run_pure, Result.andThen_ok, List.map_toArray, List.map_cons, List.map_nil, hs, hx, hrun]
      exact hK _ _ (h v W (by simpa using HO) HB (World.grownBy.refl W _))
    · refine wpList_append_own_at W hgd s x t ho base e i0 z size bytes ht hi hz0 hz1 hz2 hz hs0 v cs.length cs.flatten hs HO.1 ad 0 c [] hx (by simp) (fun j u hu => by simp at hu) (fun u hu => by simp at hu) (by simp only [maxLen]; omega) (by simpa using hl) hbase ?_
      intro v1 w1 hown hg _ _
      exact h v1 w1 ⟨by simpa using hown, by simpa using HO.2⟩ (HB.grown hg hbase (own_base HO.1)) hg
  · obtain ⟨g, o', rfl, hg, hcell⟩ := hc3 h0
    refine wpList_append_own_at W hgd s x t ho base e i0 z size bytes ht hi hz0 hz1 hz2 hz hs0 v cs.length cs.flatten hs HO.1 ⟨g, o', none⟩ ds.length c ds.flatten hx (flatten_len size ds hc2) ?_ ?_ (by simp only [maxLen]; omega) hl hbase ?_
    · intro j u hu
      have hj : j < ds.length * size := by rw [← flatten_len size ds hc2]; exact (List.getElem?_eq_some_iff.1 hu).1
      have hq : j / size < ds.length := (Nat.div_lt_iff_lt_mul hs0).2 hj
      have hx1 : ds[j / size]? = some ds[j / size] := List.getElem?_eq_getElem hq
      have hl1 : ds[j / size].length = size := hc2 _ (List.getElem_mem hq)
      have hr : j % size < ds[j / size].length := by rw [hl1]; exact Nat.mod_lt _ hs0
      have hu1 : ds[j / size][j % size]? = some ds[j / size][j % size] := List.getElem?_eq_getElem hr
      have hf := flatten_get size ds hc2 _ _ hx1 _ _ hu1
      rw [Nat.div_add_mod' j size] at hf
      rw [hf] at hu
      have hc := hcell _ _ hx1 _ _ hu1
      rw [hu] at hc
      have ha : (⟨g, o', none⟩ : Addr).add j = ⟨g, o' + j / size * size + j % size, none⟩ := by
        rw [Nat.add_assoc, Nat.div_add_mod' j size]
        unfold Addr.add
        split <;> simp_all
      rw [ha]
      exact hc
    · intro u hu
      obtain ⟨y, hy, huy⟩ := List.mem_flatten.1 hu
      exact h1 y hy u huy
    · intro v1 w1 hown hg' _ _
      refine h v1 w1 ⟨by simpa using hown, ?_⟩ (HB.grown hg' hbase (own_base HO.1)) hg'
      intro y hy
      rcases List.mem_append.1 hy with hy | hy
      · exact HO.2 y hy
      · exact hc2 y hy
end

end Go.Proofs.YtkglbccdiofnkaaGreatDoor
