/-
Tables of the package: rows of its values, an argument made of a table, and the list of such arguments.
-/
import Derived.Test.YtkglbccdiofnkaaGreatDoorTabs
namespace Go.Proofs.YtkglbccdiofnkaaGreatDoor
open Go.RowKit Go.Fl

/-- The slice value r reads as the package's values of a row. -/
def GRow (w : World) (S : Nat → Prop) (r : Value) (row : List FV) : Prop :=
  ∃ gs : List GA, RowS w S 10 r (gs.map GA.cells) ∧ gs.length = row.length ∧ ∀ (i : Nat) (x : FV) (g : GA), row[i]? = some x → gs[i]? = some g → Inner x g
/-- The slice value mv reads as a matrix of the package. -/
def GTab (w : World) (S : Nat → Prop) (mv : Value) (rows : List (List FV)) : Prop :=
  ∃ rs : List Value, RowS w S 1 mv (rs.map fun r => [r]) ∧ rs.length = rows.length ∧ ∀ (i : Nat) (row : List FV) (r : Value), rows[i]? = some row → rs[i]? = some r → GRow w S r row
section
variable {w w' : World} {S S' : Nat → Prop} {r mv : Value} {row : List FV} {rows : List (List FV)}
theorem GRow.keep (h : GRow w S r row) (hk : ∀ b, S b → w'.heap[b]? = w.heap[b]?) : GRow w' S r row := by
  obtain ⟨gs, h1, h2, h3⟩ := h
  exact ⟨gs, h1.keep hk, h2, h3⟩
theorem GRow.mono (h : GRow w S r row) (hS : ∀ b, S b → S' b) : GRow w S' r row := by
  obtain ⟨gs, h1, h2, h3⟩ := h
  exact ⟨gs, h1.mono hS, h2, h3⟩
theorem GTab.keep (h : GTab w S mv rows) (hk : ∀ b, S b → w'.heap[b]? = w.heap[b]?) : GTab w' S mv rows := by
  obtain ⟨rs, h1, h2, h3⟩ := h
  exact ⟨rs, h1.keep hk, h2, fun i row r hrow hr => (h3 i row r hrow hr).keep hk⟩
theorem GTab.mono (h : GTab w S mv rows) (hS : ∀ b, S b → S' b) : GTab w S' mv rows := by
  obtain ⟨rs, h1, h2, h3⟩ := h
  exact ⟨rs, h1.mono hS, h2, fun i row r hrow hr => (h3 i row r hrow hr).mono hS⟩
theorem GRow.len (h : GRow w S r row) : ∃ A c, r = .slice A row.length c ∧ row.length ≤ c := by
  obtain ⟨gs, ⟨A, c, e, hc, _⟩, h2, _⟩ := h
  rw [List.length_map, h2] at e hc
  exact ⟨A, c, e, hc⟩
theorem GTab.len (h : GTab w S mv rows) : ∃ A c, mv = .slice A rows.length c ∧ rows.length ≤ c := by
  obtain ⟨rs, ⟨A, c, e, hc, _⟩, h2, _⟩ := h
  rw [List.length_map, h2] at e hc
  exact ⟨A, c, e, hc⟩

/-- One value of a row. -/
theorem GRow.at_ (h : GRow w S r row) {j : Nat} {x : FV} (hj : row[j]? = some x) :
    ∃ g o c ga, r = .slice (some ⟨g, o, none⟩) row.length c ∧ row.length ≤ c ∧ S g ∧ Inner x ga ∧ ∀ k u, (GA.cells ga)[k]? = some u → w.cell? ⟨g, o + j * 10 + k, none⟩ = some u := by
  obtain ⟨gs, ⟨A, c, h1a, h1b, _, h1d⟩, h2, h3⟩ := h
  have hjl : j < row.length := (List.getElem?_eq_some_iff.1 hj).1
  obtain ⟨ga, hg⟩ : ∃ ga, gs[j]? = some ga := ⟨_, List.getElem?_eq_getElem (by omega)⟩
  obtain ⟨g, o, rfl, hgS, hcell⟩ := h1d (by rw [List.length_map]; omega)
  rw [List.length_map, h2] at h1a h1b
  exact ⟨g, o, c, ga, h1a, h1b, hgS, h3 j x ga hj hg, hcell j _ (by rw [List.getElem?_map, hg]; rfl)⟩
/-- One row of a matrix. -/
theorem GTab.at_ (h : GTab w S mv rows) {j : Nat} (hj : rows[j]? = some row) :
    ∃ g o c r, mv = .slice (some ⟨g, o, none⟩) rows.length c ∧ rows.length ≤ c ∧ S g ∧ w.cell? ⟨g, o + j, none⟩ = some r ∧ GRow w S r row := by
  obtain ⟨rs, ⟨A, c, h1a, h1b, _, h1d⟩, h2, h3⟩ := h
  have hjl : j < rows.length := (List.getElem?_eq_some_iff.1 hj).1
  obtain ⟨r, hr⟩ : ∃ r, rs[j]? = some r := ⟨_, List.getElem?_eq_getElem (by omega)⟩
  obtain ⟨g, o, rfl, hg, hcell⟩ := h1d (by rw [List.length_map]; omega)
  rw [List.length_map, h2] at h1a h1b
  have := hcell j [r] (by rw [List.getElem?_map, hr]; rfl) 0 r rfl
  simp only [Nat.add_zero, Nat.mul_one] at this
  exact ⟨g, o, c, r, h1a, h1b, hg, this, h3 j row r hj hr⟩
end

/-- A row of the package's values that is being appended to. -/
def OwnG (w : World) (base : Nat) (e : TypeId) (v : Value) (row : List FV) : Prop :=
  ∃ gs : List GA, Own w base e 10 v (gs.map GA.cells) ∧ gs.length = row.length ∧ ∀ (i : Nat) (x : FV) (g : GA), row[i]? = some x → gs[i]? = some g → Inner x g
theorem OwnG.nil_ (W : World) (base : Nat) (e : TypeId) : OwnG W base e (.slice none 0 0) [] := ⟨[], Own.nil_ _ _ _ _, rfl, fun _ _ _ h => by simp at h⟩
theorem OwnG.below {w w' : World} {base : Nat} {e : TypeId} {v : Value} {row : List FV} (h : OwnG w base e v row) (hb : Below w.heap.size w w') : OwnG w' base e v row := by
  obtain ⟨gs, h1, h2, h3⟩ := h
  exact ⟨gs, h1.below hb, h2, h3⟩
theorem OwnG.row {w : World} {base : Nat} {e : TypeId} {v : Value} {row : List FV} (h : OwnG w base e v row) : GRow w (New base w) v row := by
  obtain ⟨gs, h1, h2, h3⟩ := h
  exact ⟨gs, h1.rowS, h2, h3⟩
theorem OwnG.snoc {w' : World} {base : Nat} {e : TypeId} {v' : Value} {row : List FV} {gs : List GA} {g : GA} {x : FV}
    (h1 : Own w' base e 10 v' (gs.map GA.cells ++ [GA.cells g])) (h2 : gs.length = row.length) (h3 : ∀ (i : Nat) (x : FV) (g : GA), row[i]? = some x → gs[i]? = some g → Inner x g) (hg : Inner x g) :
    OwnG w' base e v' (row ++ [x]) :=
  ⟨gs ++ [g], by rw [List.map_append]; exact h1, by rw [List.length_append, List.length_append, h2]; rfl, snoc_at (R := fun g x => Inner x g) h2 (fun i x g hx hg => h3 i x g hx hg) hg⟩

/-- A matrix of the package that is being appended to. -/
def OwnGT (w : World) (base : Nat) (e : TypeId) (v : Value) (rows : List (List FV)) : Prop :=
  ∃ rs : List Value, Own w base e 1 v (rs.map fun r => [r]) ∧ rs.length = rows.length ∧ ∀ (i : Nat) (row : List FV) (r : Value), rows[i]? = some row → rs[i]? = some r → GRow w (Off base w v) r row
theorem OwnGT.nil_ (W : World) (base : Nat) (e : TypeId) : OwnGT W base e (.slice none 0 0) [] := ⟨[], Own.nil_ _ _ _ _, rfl, fun _ _ _ h => by simp at h⟩
theorem OwnGT.tab {w : World} {base : Nat} {e : TypeId} {v : Value} {rows : List (List FV)} (h : OwnGT w base e v rows) : GTab w (New base w) v rows := by
  obtain ⟨rs, h1, h2, h3⟩ := h
  exact ⟨rs, h1.rowS, h2, fun i row r hrow hr => (h3 i row r hrow hr).mono fun b hb => ⟨hb.1, hb.2.1⟩⟩
theorem OwnGT.below {w w' : World} {base : Nat} {e : TypeId} {v : Value} {rows : List (List FV)} (h : OwnGT w base e v rows) (hb : Below w.heap.size w w') : OwnGT w' base e v rows := by
  obtain ⟨rs, h1, h2, h3⟩ := h
  exact ⟨rs, h1.below hb, h2, fun i row r hrow hr => ((h3 i row r hrow hr).keep fun b h => hb.block b h.2.1).mono fun b h => ⟨h.1, Nat.lt_of_lt_of_le h.2.1 hb.size, h.2.2⟩⟩
theorem OwnGT.snoc {w w' : World} {base : Nat} {e : TypeId} {v v' : Value} {rows : List (List FV)} {rs : List Value} {r : Value} {row : List FV}
    (h1 : Own w' base e 1 v' (rs.map (fun r => [r]) ++ [[r]])) (h2 : rs.length = rows.length) (h3 : ∀ (i : Nat) (row : List FV) (r : Value), rows[i]? = some row → rs[i]? = some r → GRow w (Off base w v) r row)
    (hr : GRow w (Off base w v) r row) (hg : w.grownBy w' v.ownBlock) (hat : v'.ownBlock = v.ownBlock ∨ ∀ b, v'.ownBlock = some b → w.heap.size ≤ b) : OwnGT w' base e v' (rows ++ [row]) := by
  obtain ⟨k1, k2⟩ := grown_off (lo := base) hg hat
  exact ⟨rs ++ [r], by rw [List.map_append]; exact h1, by rw [List.length_append, List.length_append, h2]; rfl,
    snoc_at (R := fun r row => GRow w' (Off base w' v') r row) h2 (fun i x g hx hg => ((h3 i x g hx hg).keep k1).mono k2) ((hr.keep k1).mono k2)⟩

/-- The package's value that is made of an argument. -/
def InnerA (w : World) (S : Nat → Prop) (v : Value) : Arg → Prop
  | .one x => ∃ g, Inner x g ∧ v = .agg #[.string ⟨#[]⟩, .float .f64 g.num, .string g.str, .slice none 0 0, .slice none 0 0, .bool g.bool, .string g.err, .int .u8 g.type, .pointer none, .pointer none]
  | .tbl rows => ∃ mv p q, GTab w S mv rows ∧ v = .agg #[.string ⟨#[]⟩, .float .f64 0, .string ⟨#[]⟩, .slice none 0 0, mv, .bool false, .string ⟨#[]⟩, .int .u8 4, .pointer p, .pointer q]
theorem InnerA.keep {w w' : World} {S : Nat → Prop} {v : Value} {a : Arg} (h : InnerA w S v a) (hk : ∀ b, S b → w'.heap[b]? = w.heap[b]?) : InnerA w' S v a := by
  cases a with
  | one x => exact h
  | tbl rows => obtain ⟨mv, p, q, h1, h2⟩ := h; exact ⟨mv, p, q, h1.keep hk, h2⟩
theorem InnerA.mono {w : World} {S S' : Nat → Prop} {v : Value} {a : Arg} (h : InnerA w S v a) (hS : ∀ b, S b → S' b) : InnerA w S' v a := by
  cases a with
  | one x => exact h
  | tbl rows => obtain ⟨mv, p, q, h1, h2⟩ := h; exact ⟨mv, p, q, h1.mono hS, h2⟩

/-- The blocks of the arguments of a list: none of the list's own. -/
abbrev Free (w : World) (l : Nat) (es : List (Nat × Value)) (b : Nat) : Prop := b < w.heap.size ∧ b ≠ l ∧ ∀ q ∈ es, b ≠ q.1
/-- The list at l is made of these arguments; none of its blocks is one of an argument. -/
structure IListA (w : World) (l : Nat) (al : List Arg) (es : List (Nat × Value)) : Prop where
  ring : Ring w l es
  len : es.length = al.length
  vals : ∀ (i : Nat) (a : Arg) (p : Nat × Value), al[i]? = some a → es[i]? = some p → ∃ v, InnerA w (Free w l es) v a ∧ p.2 = .iface 71 v
theorem IListA.below {w w' : World} {l : Nat} {al : List Arg} {es : List (Nat × Value)} (h : IListA w l al es) (hb : Below w.heap.size w w') : IListA w' l al es :=
  ⟨h.ring.below hb, h.len, fun i a p ha hp => by
    obtain ⟨v, h1, h5⟩ := h.vals i a p ha hp
    exact ⟨v, (h1.keep fun b h => hb.block b h.1).mono fun b h => ⟨Nat.lt_of_lt_of_le h.1 hb.size, h.2⟩, h5⟩⟩

/-- PushBack: the ring is one longer, and no other block has turned. -/
theorem push_far {l : Nat} {es : List (Nat × Value)} (u : TypeId) (x : Value) (w : World) (hR : Ring w l es) (hn : es.length ≤ 1000000) :
    Calls Tryz.prog 68 #[.pointer (some ⟨l, 0, none⟩), .iface u x] w fun e w' => e = .returned (.pointer (some ⟨w.heap.size, 0, none⟩)) ∧ Ring w' l (es ++ [(w.heap.size, .iface u x)]) ∧ (∀ B, B ≤ l → Below B w w') ∧ w'.heap.size = w.heap.size + 1 ∧
      ∀ k, k < w.heap.size → k ≠ l → (∀ q ∈ es, k ≠ q.1) → w'.heap[k]? = w.heap[k]? := by
  have hl := heap_lt hR.head
  have key : ∀ w', w' = pushed w l (pv l es es.length) es.length (.iface u x) → Ring w' l (es ++ [(w.heap.size, .iface u x)]) ∧ (∀ B, B ≤ l → Below B w w') ∧ w'.heap.size = w.heap.size + 1 ∧
      ∀ k, k < w.heap.size → k ≠ l → (∀ q ∈ es, k ≠ q.1) → w'.heap[k]? = w.heap[k]? := by
    rintro w' rfl
    have hpv : pv l es es.length = l ∨ ∃ q ∈ es, pv l es es.length = q.1 := by
      cases hn' : es.length with
      | zero => exact .inl rfl
      | succ k =>
        have hlt : k < es.length := by omega
        refine .inr ⟨es[k], List.getElem_mem hlt, ?_⟩
        show nx l es k = _
        unfold nx; rw [List.getElem?_eq_getElem hlt]
    refine ⟨ring_push hR _, fun B hB => pushed_below w l _ _ _ B hB ?_ (by omega), pushed_size .., fun k hk h1 h2 => pushed_far w l _ _ _ k hk h1 ?_⟩
    · rcases hpv with h | ⟨q, hq, h⟩
      · rw [h]; exact hB
      · rw [h]; exact Nat.le_of_lt (Nat.lt_of_le_of_lt hB (hR.above q hq))
    · rcases hpv with h | ⟨q, hq, h⟩
      · rw [h]; exact h1
      · rw [h]; exact h2 q hq
  rcases Nat.eq_zero_or_pos es.length with h0 | h0
  · have hes := List.eq_nil_of_length_eq_zero h0
    subst hes
    have h1 := hR.head
    simp only [nx, pv, List.length_nil, List.getElem?_nil] at h1
    exact (push_raw0 l u x w h1).mono fun e w' ⟨he, hw⟩ => ⟨he, key w' hw⟩
  · obtain ⟨k, hk⟩ : ∃ k, es.length = k + 1 := ⟨es.length - 1, by omega⟩
    have hlt : k < es.length := by omega
    have hab := hR.above es[k] (List.getElem_mem hlt)
    have hpv : pv l es es.length = es[k].1 := by
      rw [hk]
      show nx l es k = _
      unfold nx
      rw [List.getElem?_eq_getElem hlt]
    have hcell := hR.elem k es[k].1 es[k].2 (List.getElem?_eq_getElem hlt)
    rw [nx_out _ _ _ (by omega)] at hcell
    have h1 := hR.head
    rw [hpv] at h1 key
    exact (push_raw l es[k].1 es.length _ _ _ _ u x w (by omega) hn h1 hcell).mono fun e w' ⟨he, hw⟩ => ⟨he, key w' hw⟩

theorem IListA.snoc {w w1 w' : World} {l : Nat} {al : List Arg} {es : List (Nat × Value)} {k : Nat} {a : Arg} {v : Value} (h : IListA w l (al.take k) es) (ha : al[k]? = some a) (hb : Below w.heap.size w w1) (hv : InnerA w1 (New w.heap.size w1) v a)
    (hR : Ring w' l (es ++ [(w1.heap.size, .iface 71 v)])) (hs : w'.heap.size = w1.heap.size + 1) (hfar : ∀ k, k < w1.heap.size → k ≠ l → (∀ q ∈ es, k ≠ q.1) → w'.heap[k]? = w1.heap[k]?) :
    IListA w' l (al.take (k + 1)) (es ++ [(w1.heap.size, .iface 71 v)]) := by
  have hlt : l < w.heap.size := heap_lt h.ring.head
  have hes : ∀ q ∈ es, q.1 < w.heap.size := by
    intro q hq
    obtain ⟨i, hi⟩ := List.getElem?_of_mem hq
    exact heap_lt (h.ring.elem i q.1 q.2 hi)
  have hsz := hb.size
  rw [take_snoc al k a ha]
  refine ⟨hR, by rw [List.length_append, List.length_append, h.len]; rfl, snoc_at (R := fun (p : Nat × Value) a => ∃ v', InnerA w' (Free w' l (es ++ [(w1.heap.size, .iface 71 v)])) v' a ∧ p.2 = .iface 71 v') h.len ?_ ?_⟩
  · intro i x y hx hy
    obtain ⟨v', h1, h5⟩ := h.vals i x y hx hy
    refine ⟨v', (h1.keep fun b hb' => ?_).mono fun b hb' => ⟨by have := hb'.1; omega, hb'.2.1, ?_⟩, h5⟩
    · exact (hfar b (by have := hb'.1; omega) hb'.2.1 hb'.2.2).trans (hb.block b hb'.1)
    · intro q hq
      rcases List.mem_append.1 hq with hq | hq
      · exact hb'.2.2 q hq
      · simp at hq; subst hq; have := hb'.1; show b ≠ w1.heap.size; omega
  · refine ⟨v, (hv.keep fun b hb' => ?_).mono fun b hb' => ⟨by have := hb'.2; omega, by have := hb'.1; omega, ?_⟩, rfl⟩
    · exact hfar b hb'.2 (by have := hb'.1; omega) fun q hq he => by have := hes q hq; have := hb'.1; omega
    · intro q hq
      rcases List.mem_append.1 hq with hq | hq
      · intro he; have := hes q hq; have := hb'.1; omega
      · simp at hq; subst hq; have := hb'.2; show b ≠ w1.heap.size; omega

/-- One element of the list. -/
theorem IListA.at_ {w : World} {l : Nat} {al : List Arg} {es : List (Nat × Value)} (h : IListA w l al es) (i : Nat) (a : Arg) (ha : al[i]? = some a) :
    ∃ e v, InnerA w (· < w.heap.size) v a ∧ es[i]? = some (e, .iface 71 v) ∧
      w.heap[e]? = some (.cells #[.pointer (some ⟨nx l es (i + 1), 0, none⟩), .pointer (some ⟨pv l es i, 0, none⟩), .pointer (some ⟨l, 0, none⟩), .iface 71 v] 89) := by
  have hl := h.len
  have hi : i < es.length := by
    have := (List.getElem?_eq_some_iff.1 ha).1
    omega
  obtain ⟨p, hp⟩ : ∃ p, es[i]? = some p := ⟨_, List.getElem?_eq_getElem hi⟩
  obtain ⟨v, hv, hpv⟩ := h.vals i a p ha hp
  obtain ⟨e, v'⟩ := p
  dsimp only at hpv
  subst hpv
  exact ⟨e, v, hv.mono fun b h => h.1, hp, h.ring.elem i e _ hp⟩

end Go.Proofs.YtkglbccdiofnkaaGreatDoor
