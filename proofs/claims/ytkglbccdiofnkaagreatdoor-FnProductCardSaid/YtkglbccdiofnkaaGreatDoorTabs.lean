/-
Rows of rows: tables of the reference, of the program and of the package; in which blocks they lie, and how they read while the world grows.
-/
import Derived.Test.YtkglbccdiofnkaaGreatDoorTextl
import Derived.Test.YtkglbccdiofnkaaGreatDoorAgrees
import Derived.Test.YtkglbccdiofnkaaGreatDoorTwos
namespace Go.Proofs.YtkglbccdiofnkaaGreatDoor
open Go.RowKit Go.Fl

theorem take_snoc {α : Type} (l : List α) (k : Nat) (a : α) (h : l[k]? = some a) : l.take (k + 1) = l.take k ++ [a] := by rw [List.take_add_one, h]; rfl
/-- Two lists side by side, each one longer. -/
theorem snoc_at {α β : Type} {R : α → β → Prop} {us : List α} {bs : List β} {a : α} {b : β} (hl : us.length = bs.length) (h : ∀ (i : Nat) (x : β) (y : α), bs[i]? = some x → us[i]? = some y → R y x) (hab : R a b) :
    ∀ (i : Nat) (x : β) (y : α), (bs ++ [b])[i]? = some x → (us ++ [a])[i]? = some y → R y x := by
  intro i x y hx hy
  rcases Nat.lt_or_ge i us.length with hlt | hge
  · rw [List.getElem?_append_left hlt] at hy
    rw [List.getElem?_append_left (by omega)] at hx
    exact h i x y hx hy
  · rw [List.getElem?_append_right hge] at hy
    rw [List.getElem?_append_right (by omega)] at hx
    have hz : i - us.length = 0 := by
      have := (List.getElem?_eq_some_iff.1 hy).1
      simp at this
      omega
    rw [hz] at hy
    rw [show i - bs.length = 0 by omega] at hx
    have e1 : a = y := by simpa using hy
    have e2 : b = x := by simpa using hx
    subst e1 e2
    exact hab

theorem box5 {w : World} {g : Nat} {T : TypeId} {a b c d e : Value} (h : w.heap[g]? = some (.cells #[a, b, c, d, e] T)) (v0 v1 v2 v3 v4 : Value) :
    (((((w.setCell ⟨g, 0, none⟩ v0).setCell ⟨g, 1, none⟩ v1).setCell ⟨g, 2, none⟩ v2).setCell ⟨g, 3, none⟩ v3).setCell ⟨g, 4, none⟩ v4).heap[g]? = some (.cells #[v0, v1, v2, v3, v4] T) :=
  (heap_set_same (heap_set_same (heap_set_same (heap_set_same (heap_set_same h v0) v1) v2) v3) v4).trans (by simp)
/-- The slice value v reads as the elements cs, each of sz cells, in blocks of which S holds. -/
def RowS (w : World) (S : Nat → Prop) (sz : Nat) (v : Value) (cs : List (List Value)) : Prop :=
  ∃ A c, v = .slice A cs.length c ∧ cs.length ≤ c ∧ (∀ x ∈ cs, x.length = sz) ∧
    (0 < cs.length → ∃ g o, A = some ⟨g, o, none⟩ ∧ S g ∧ ∀ i x, cs[i]? = some x → ∀ j u, x[j]? = some u → w.cell? ⟨g, o + i * sz + j, none⟩ = some u)
section
variable {w w' : World} {S S' : Nat → Prop} {B sz : Nat} {v : Value} {cs : List (List Value)}
theorem Row.s (h : Row w B sz v cs) (hS : ∀ b, b < B → S b) : RowS w S sz v cs := by
  obtain ⟨A, c, h1, h2, h3, h4⟩ := h
  refine ⟨A, c, h1, h2, h3, fun h0 => ?_⟩
  obtain ⟨g, o, h5, h6, h7⟩ := h4 h0
  exact ⟨g, o, h5, hS g h6, h7⟩
theorem RowS.row (h : RowS w S sz v cs) (hS : ∀ b, S b → b < B) : Row w B sz v cs := by
  obtain ⟨A, c, h1, h2, h3, h4⟩ := h
  refine ⟨A, c, h1, h2, h3, fun h0 => ?_⟩
  obtain ⟨g, o, h5, h6, h7⟩ := h4 h0
  exact ⟨g, o, h5, hS g h6, h7⟩
theorem RowS.mono (h : RowS w S sz v cs) (hS : ∀ b, S b → S' b) : RowS w S' sz v cs := by
  obtain ⟨A, c, h1, h2, h3, h4⟩ := h
  refine ⟨A, c, h1, h2, h3, fun h0 => ?_⟩
  obtain ⟨g, o, h5, h6, h7⟩ := h4 h0
  exact ⟨g, o, h5, hS g h6, h7⟩
theorem RowS.keep (h : RowS w S sz v cs) (hk : ∀ b, S b → w'.heap[b]? = w.heap[b]?) : RowS w' S sz v cs := by
  obtain ⟨A, c, h1, h2, h3, h4⟩ := h
  refine ⟨A, c, h1, h2, h3, fun h0 => ?_⟩
  obtain ⟨g, o, h5, h6, h7⟩ := h4 h0
  exact ⟨g, o, h5, h6, fun i x hx j u hu => (World.cell?_of_block (a := ⟨g, o + i * sz + j, none⟩) (hk g h6)).trans (h7 i x hx j u hu)⟩
/-- What the call owns lies in blocks from its base on. -/
theorem Own.rowS {base : Nat} {e : TypeId} (h : Own w base e sz v cs) : RowS w (fun b => base ≤ b ∧ b < w.heap.size) sz v cs := by
  obtain ⟨A, c, h1, h2, h3, h4⟩ := h.row
  refine ⟨A, c, h1, h2, h3, fun h0 => ?_⟩
  obtain ⟨g, o, h5, h6, h7⟩ := h4 h0
  refine ⟨g, o, h5, ⟨?_, h6⟩, h7⟩
  subst h5
  exact own_base h.1 g (by rw [h1]; rfl)
theorem RowS.len (h : RowS w S sz v cs) : ∃ A c, v = .slice A cs.length c ∧ cs.length ≤ c := by
  obtain ⟨A, c, h1, h2, _⟩ := h
  exact ⟨A, c, h1, h2⟩
end

/-- The slice value rv reads as rows of single values, each laid by f in sz cells, in blocks of which S holds. -/
def RRowS (sz : Nat) (f : FV → List Value) (w : World) (S : Nat → Prop) (rv : Value) (rows : List (List FV)) : Prop :=
  ∃ rs : List Value, RowS w S 1 rv (rs.map fun r => [r]) ∧ rs.length = rows.length ∧ ∀ (i : Nat) (row : List FV) (r : Value), rows[i]? = some row → rs[i]? = some r → RowS w S sz r (row.map f)
section
variable {sz : Nat} {f : FV → List Value} {w w' : World} {S S' : Nat → Prop} {B : Nat} {rv : Value} {rows : List (List FV)}
theorem RRowS.mono (h : RRowS sz f w S rv rows) (hS : ∀ b, S b → S' b) : RRowS sz f w S' rv rows := by
  obtain ⟨rs, h1, h2, h3⟩ := h
  exact ⟨rs, h1.mono hS, h2, fun i row r hrow hr => (h3 i row r hrow hr).mono hS⟩
theorem RRowS.keep (h : RRowS sz f w S rv rows) (hk : ∀ b, S b → w'.heap[b]? = w.heap[b]?) : RRowS sz f w' S rv rows := by
  obtain ⟨rs, h1, h2, h3⟩ := h
  exact ⟨rs, h1.keep hk, h2, fun i row r hrow hr => (h3 i row r hrow hr).keep hk⟩
theorem RRowS.len (h : RRowS sz f w S rv rows) : ∃ A c, rv = .slice A rows.length c ∧ rows.length ≤ c := by
  obtain ⟨rs, ⟨A, c, e, hc, _⟩, h2, _⟩ := h
  rw [List.length_map, h2] at e hc
  exact ⟨A, c, e, hc⟩
/-- Row j of such a table: the cell in which its slice lies, and the row itself. -/
theorem RRowS.at_ (h : RRowS sz f w S rv rows) {j : Nat} {row : List FV} (hj : rows[j]? = some row) :
    ∃ g o c r, rv = .slice (some ⟨g, o, none⟩) rows.length c ∧ rows.length ≤ c ∧ S g ∧ w.cell? ⟨g, o + j, none⟩ = some r ∧ RowS w S sz r (row.map f) := by
  obtain ⟨rs, ⟨A, c, h1a, h1b, h1c, h1d⟩, h2, h3⟩ := h
  have hjl : j < rows.length := (List.getElem?_eq_some_iff.1 hj).1
  obtain ⟨r, hr⟩ : ∃ r, rs[j]? = some r := ⟨_, List.getElem?_eq_getElem (by omega)⟩
  have hx : (rs.map fun r => [r])[j]? = some [r] := by rw [List.getElem?_map, hr]; rfl
  obtain ⟨g, o, rfl, hg, hcell⟩ := h1d (by rw [List.length_map]; omega)
  rw [List.length_map, h2] at h1a h1b
  have := hcell j [r] hx 0 r rfl
  simp only [Nat.add_zero, Nat.mul_one] at this
  exact ⟨g, o, c, r, h1a, h1b, hg, this, h3 j row r hj hr⟩
end
theorem TRow.s {w : World} {B : Nat} {rv : Value} {rows : List (List FV)} (h : TRow w B rv rows) : RRowS 5 FV.list w (· < B) rv rows := by
  obtain ⟨rs, h1, h2, h3⟩ := h
  exact ⟨rs, h1.s fun _ h => h, h2, fun i row r hrow hr => (h3 i r row hr hrow).s fun _ h => h⟩
theorem RRowS.t {w : World} {S : Nat → Prop} {B : Nat} {rv : Value} {rows : List (List FV)} (h : RRowS 5 FV.list w S rv rows) (hS : ∀ b, S b → b < B) : TRow w B rv rows := by
  obtain ⟨rs, h1, h2, h3⟩ := h
  exact ⟨rs, h1.row hS, h2, fun i r row hr hrow => (h3 i row r hrow hr).row hS⟩

/-- Blocks that a call made. -/
abbrev New (lo : Nat) (w : World) (b : Nat) : Prop := lo ≤ b ∧ b < w.heap.size
/-- Blocks that a call made, other than the one that an own slice writes. -/
abbrev Off (lo : Nat) (w : World) (v : Value) (b : Nat) : Prop := lo ≤ b ∧ b < w.heap.size ∧ v.ownBlock ≠ some b

/-- append to an own slice: where the new one lies, and which blocks are left alone. -/
theorem grown_off {W w1 : World} {lo : Nat} {v v1 : Value} (hg : W.grownBy w1 v.ownBlock) (hat : v1.ownBlock = v.ownBlock ∨ ∀ b, v1.ownBlock = some b → W.heap.size ≤ b) :
    (∀ b, Off lo W v b → w1.heap[b]? = W.heap[b]?) ∧ ∀ b, Off lo W v b → Off lo w1 v1 b := by
  refine ⟨fun b hb => hg.block b hb.2.1 (fun e => hb.2.2 e.symm), fun b hb => ⟨hb.1, Nat.lt_of_lt_of_le hb.2.1 hg.size, fun e => ?_⟩⟩
  rcases hat with h | h
  · rw [h] at e; exact hb.2.2 e
  · have := h b e
    have := hb.2.1
    omega

/-- What was made behind an own slice lies apart from it. -/
theorem off_new {w w' : World} {base sz : Nat} {e : TypeId} {v : Value} {cs : List (List Value)} (h : Own w base e sz v cs) (hbase : base ≤ w.heap.size) : ∀ b, New w.heap.size w' b → Off base w' v b :=
  fun b hb => ⟨Nat.le_trans hbase hb.1, hb.2, fun e => by have := (h.1.lt b e).2; have := hb.1; omega⟩

section
variable {P : Program} {ops : Array Oper} {rest : List Oper} {o : Oper} {a : Act} {Q : Exit → Act → World → Prop}
/-- append(v, x): behind 'at_builtin'; as app_one, but it tells where the new slice lies. -/
theorem app_off {w0 W : World} (base : Nat) (hgd : o.guard = none) (s x : Operand) (t e : TypeId) (z : Value) (size bytes : Nat)
    (ho : o.op = .call { callee := .builtin .append, args := #[s, x], argTypes := #[t, t] })
    (ht : P.underlying t = some (.slice e)) (hinfo : (P.info? e).map (fun i => (i.zero, i.size, i.bytes)) = some (some z, size, bytes)) (hz : z.cells.size = size) (hs0 : 0 < size) (hb0 : 0 < bytes)
    (v : Value) (cs : List (List Value)) (ys : List Value) (hs : a.eval s = v) {b : Nat} (hx : a.eval x = .slice (some ⟨b, 0, none⟩) 1 1) (hys : ys.length = size) (h1 : ∀ u ∈ ys, u.oneCell' = true) (hbk : b = W.heap.size)
    (HO : Own W base e size v cs) (HB : Below base w0 W) (hbase : base ≤ W.heap.size) (hl : (cs.length + 1) * bytes ≤ 140737488355328)
    (h : ∀ v1 w1, Own w1 base e size v1 (cs ++ [ys]) → Below base w0 w1 → Below base W w1 → W.grownBy w1 v.ownBlock → (v1.ownBlock = v.ownBlock ∨ ∀ b, v1.ownBlock = some b → W.heap.size ≤ b) → wpList P ops Q rest (a.put o.dst v1) w1) :
    wpList P ops Q (o :: rest) a (W.alloc (.cells ys.toArray e)) := by
  subst hbk
  obtain ⟨i0, hi, hzz⟩ := Option.map_eq_some_iff.1 hinfo
  simp only [Prod.mk.injEq] at hzz
  obtain ⟨hz0, hz1, hz2⟩ := hzz
  have hlen : cs.length + 1 ≤ 140737488355328 := Nat.le_trans (Nat.le_mul_of_pos_right _ hb0) hl
  refine wpList_append_own_at (W.alloc (.cells ys.toArray e)) hgd s x t ho base e i0 z size bytes ht hi hz0 hz1 hz2 hz hs0 v cs.length cs.flatten hs (HO.1.alloc _) ⟨W.heap.size, 0, none⟩ 1 1 ys hx (by rw [hys, Nat.one_mul])
    (by simpa using World.news_of_block (cs := ys.toArray) (t := e) (fr := (0, 0)) (heap_alloc_new W (.cells ys.toArray e))) h1 (by simp only [maxLen]; omega) hl (by simp; omega) ?_
  intro v1 w1 hown hg _ hat
  refine h v1 w1 ⟨by simpa using hown, ?_⟩ ((HB.alloc hbase _).grown hg (by simp; omega) (own_base HO.1)) (((Below.refl base W).alloc hbase _).grown hg (by simp; omega) (own_base HO.1)) (World.grownBy.trans (World.grownBy_alloc W _ _) hg) ?_
  · intro y hy
    rcases List.mem_append.1 hy with hy | hy
    · exact HO.2 y hy
    · simp at hy; subst hy; exact hys
  · rcases hat with h | h
    · exact .inl h
    · refine .inr fun b hb => ?_
      rw [h] at hb
      injection hb with hb
      simp at hb
      omega
end

/-- Rows that are being appended to a slice of the call's own. -/
def OwnR (w : World) (base : Nat) (e : TypeId) (sz : Nat) (f : FV → List Value) (v : Value) (rows : List (List FV)) : Prop :=
  ∃ rs : List Value, Own w base e 1 v (rs.map fun r => [r]) ∧ rs.length = rows.length ∧ ∀ (i : Nat) (row : List FV) (r : Value), rows[i]? = some row → rs[i]? = some r → RowS w (Off base w v) sz r (row.map f)
theorem OwnR.nil_ (W : World) (base : Nat) (e : TypeId) (sz : Nat) (f : FV → List Value) : OwnR W base e sz f (.slice none 0 0) [] := ⟨[], Own.nil_ _ _ _ _, rfl, fun _ _ _ h => by simp at h⟩
theorem OwnR.rrow {w : World} {base : Nat} {e : TypeId} {sz : Nat} {f : FV → List Value} {v : Value} {rows : List (List FV)} (h : OwnR w base e sz f v rows) : RRowS sz f w (New base w) v rows := by
  obtain ⟨rs, h1, h2, h3⟩ := h
  exact ⟨rs, h1.rowS, h2, fun i row r hrow hr => (h3 i row r hrow hr).mono fun b hb => ⟨hb.1, hb.2.1⟩⟩
theorem OwnR.below {w w' : World} {base : Nat} {e : TypeId} {sz : Nat} {f : FV → List Value} {v : Value} {rows : List (List FV)} (h : OwnR w base e sz f v rows) (hb : Below w.heap.size w w') : OwnR w' base e sz f v rows := by
  obtain ⟨rs, h1, h2, h3⟩ := h
  exact ⟨rs, h1.below hb, h2, fun i row r hrow hr => ((h3 i row r hrow hr).keep fun b h => hb.block b h.2.1).mono fun b h => ⟨h.1, Nat.lt_of_lt_of_le h.2.1 hb.size, h.2.2⟩⟩
/-- A cell below the base is written. -/
theorem OwnR.box {w : World} {base : Nat} {e : TypeId} {sz : Nat} {f : FV → List Value} {v : Value} {rows : List (List FV)} (h : OwnR w base e sz f v rows) {p : Addr} (hp : p.block < base) (u : Value) : OwnR (w.setCell p u) base e sz f v rows := by
  obtain ⟨rs, h1, h2, h3⟩ := h
  refine ⟨rs, h1.setBelow hp u, h2, fun i row r hrow hr => ((h3 i row r hrow hr).keep fun b h => Below.heap_setCell w p u b (by have := h.1; omega)).mono fun b h => ⟨h.1, by simpa [World.setCell] using h.2.1, h.2.2⟩⟩
theorem OwnR.snoc {w w' : World} {base : Nat} {e : TypeId} {sz : Nat} {f : FV → List Value} {v v' : Value} {rows : List (List FV)} {rs : List Value} {r : Value} {row : List FV}
    (h1 : Own w' base e 1 v' (rs.map (fun r => [r]) ++ [[r]])) (h2 : rs.length = rows.length) (h3 : ∀ (i : Nat) (row : List FV) (r : Value), rows[i]? = some row → rs[i]? = some r → RowS w (Off base w v) sz r (row.map f))
    (hr : RowS w (Off base w v) sz r (row.map f)) (hg : w.grownBy w' v.ownBlock) (hat : v'.ownBlock = v.ownBlock ∨ ∀ b, v'.ownBlock = some b → w.heap.size ≤ b) : OwnR w' base e sz f v' (rows ++ [row]) := by
  obtain ⟨k1, k2⟩ := grown_off (lo := base) hg hat
  exact ⟨rs ++ [r], by rw [List.map_append]; exact h1, by rw [List.length_append, List.length_append, h2]; rfl,
    snoc_at (R := fun r row => RowS w' (Off base w' v') sz r (row.map f)) h2 (fun i x g hx hg => ((h3 i x g hx hg).keep k1).mono k2) ((hr.keep k1).mono k2)⟩

/-- Well-formed arguments. -/
def Arg.good : Arg → Prop
  | .one v => v.ok
  | .tbl rows => rows.length ≤ 1000000 ∧ (∀ r ∈ rows, r.length ≤ 1000000) ∧ ∀ r ∈ rows, ∀ v ∈ r, v.ok
theorem Arg.good.fits {a : Arg} (h : a.good) : a.fits := by
  cases a with
  | one v => exact FV.ok.notMatrix h
  | tbl rows => exact ⟨h.1, fun r hr v hv => (h.2.2 r hr v hv).notMatrix⟩

/-- The cells of an argument of the reference, and of the program. -/
def ACellS (w : World) (S : Nat → Prop) (c : List Value) : Arg → Prop
  | .one v => c = FV.list v
  | .tbl rows => ∃ rv, c = [.int .i64 5, .int .i64 0, .int .i64 0, .string ⟨#[]⟩, rv] ∧ RRowS 5 FV.list w S rv rows
def ICellS (w : World) (S : Nat → Prop) (c : List Value) : Arg → Prop
  | .one v => c = FV.ilist v
  | .tbl rows => ∃ rv, c = [.int .i64 5, .float .f64 0, .string ⟨#[]⟩, rv] ∧ RRowS 4 FV.ilist w S rv rows
section
variable {w w' : World} {S S' : Nat → Prop} {c : List Value} {a : Arg}
theorem ACellS.mono (h : ACellS w S c a) (hS : ∀ b, S b → S' b) : ACellS w S' c a := by
  cases a with
  | one v => exact h
  | tbl rows => obtain ⟨rv, h1, h2⟩ := h; exact ⟨rv, h1, h2.mono hS⟩
theorem ACellS.keep (h : ACellS w S c a) (hk : ∀ b, S b → w'.heap[b]? = w.heap[b]?) : ACellS w' S c a := by
  cases a with
  | one v => exact h
  | tbl rows => obtain ⟨rv, h1, h2⟩ := h; exact ⟨rv, h1, h2.keep hk⟩
theorem ACellS.cell {B : Nat} (h : ACellS w S c a) (hS : ∀ b, S b → b < B) : ACell w B c a := by
  cases a with
  | one v => exact h
  | tbl rows => obtain ⟨rv, h1, h2⟩ := h; exact ⟨rv, h1, h2.t hS⟩
theorem ICellS.mono (h : ICellS w S c a) (hS : ∀ b, S b → S' b) : ICellS w S' c a := by
  cases a with
  | one v => exact h
  | tbl rows => obtain ⟨rv, h1, h2⟩ := h; exact ⟨rv, h1, h2.mono hS⟩
theorem ICellS.keep (h : ICellS w S c a) (hk : ∀ b, S b → w'.heap[b]? = w.heap[b]?) : ICellS w' S c a := by
  cases a with
  | one v => exact h
  | tbl rows => obtain ⟨rv, h1, h2⟩ := h; exact ⟨rv, h1, h2.keep hk⟩
end
/-- A single value, or a table, by the rows that it has. -/
theorem ICellS.parts {w : World} {S : Nat → Prop} {c : List Value} {a : Arg} (h : ICellS w S c a) (hg : a.good) : ∃ (kd : Int) (nm : Nat) (tx : ByteArray) (A : Option Addr) (cp : Nat) (rows : List (List FV)), c = [.int .i64 kd, .float .f64 nm, .string tx, .slice A rows.length cp] ∧ RRowS 4 FV.ilist w S (.slice A rows.length cp) rows ∧
    (rows.length ≤ 1000000 ∧ (∀ r ∈ rows, r.length ≤ 1000000) ∧ ∀ r ∈ rows, ∀ v ∈ r, v.ok) ∧
    ∀ (w' : World) (S' : Nat → Prop) (rv : Value), RRowS 4 FV.ilist w' S' rv rows → (rows.length = 0 → rv = .slice none 0 0) → ICellS w' S' [.int .i64 kd, .float .f64 nm, .string tx, rv] a := by
  cases a with
  | one v =>
    refine ⟨v.kind, sx v.six, v.text, none, 0, [], h, ⟨[], ⟨none, 0, rfl, Nat.le_refl _, fun _ h => by simp at h, fun h => absurd h (by simp)⟩, rfl, fun _ _ _ h => by simp at h⟩, ⟨by simp, by simp, by simp⟩, fun w' S' rv _ h0 => ?_⟩
    show _ = FV.ilist v
    rw [h0 rfl]
  | tbl rows =>
    obtain ⟨rv, h1, h2⟩ := h
    obtain ⟨A, cp, rfl, _⟩ := h2.len
    exact ⟨5, 0, ⟨#[]⟩, A, cp, rows, h1, h2, hg, fun w' S' rv hr _ => ⟨rv, rfl, hr⟩⟩
/-- The slice value v reads as arguments of the program, below block B. -/
def IRow (w : World) (B : Nat) (v : Value) (al : List Arg) : Prop :=
  ∃ cs : List (List Value), RowS w (· < B) 4 v cs ∧ cs.length = al.length ∧ ∀ (i : Nat) (a : Arg) (c : List Value), al[i]? = some a → cs[i]? = some c → ICellS w (· < B) c a
theorem IRow.below {w w' : World} {B : Nat} {v : Value} {al : List Arg} (h : IRow w B v al) (hb : Below B w w') : IRow w' B v al := by
  obtain ⟨cs, h1, h2, h3⟩ := h
  exact ⟨cs, h1.keep fun b h => hb.block b h, h2, fun i a c ha hc => (h3 i a c ha hc).keep fun b h => hb.block b h⟩
theorem IRow.more {w : World} {B B' : Nat} {v : Value} {al : List Arg} (h : IRow w B v al) (hB : B ≤ B') : IRow w B' v al := by
  obtain ⟨cs, h1, h2, h3⟩ := h
  exact ⟨cs, h1.mono fun b h => Nat.lt_of_lt_of_le h hB, h2, fun i a c ha hc => (h3 i a c ha hc).mono fun b h => Nat.lt_of_lt_of_le h hB⟩
theorem IRow.len {w : World} {B : Nat} {v : Value} {al : List Arg} (h : IRow w B v al) : ∃ A c, v = .slice A al.length c ∧ al.length ≤ c := by
  obtain ⟨cs, ⟨A, c, e, hc, _⟩, h2, _⟩ := h
  rw [h2] at e hc
  exact ⟨A, c, e, hc⟩
theorem IRow.at_ {w : World} {B : Nat} {v : Value} {al : List Arg} (h : IRow w B v al) {i : Nat} {a : Arg} (ha : al[i]? = some a) :
    ∃ g o c x, v = .slice (some ⟨g, o, none⟩) al.length c ∧ al.length ≤ c ∧ g < B ∧ ICellS w (· < B) x a ∧ ∀ j u, x[j]? = some u → w.cell? ⟨g, o + i * 4 + j, none⟩ = some u := by
  obtain ⟨cs, h1, h2, h3⟩ := h
  have hi : i < al.length := (List.getElem?_eq_some_iff.1 ha).1
  obtain ⟨x, hx⟩ : ∃ x, cs[i]? = some x := ⟨_, List.getElem?_eq_getElem (by omega)⟩
  obtain ⟨g, o, c, e, hc, hg, hcell⟩ := (h1.row (B := B) fun _ h => h).at_ hx
  rw [h2] at e hc
  exact ⟨g, o, c, x, e, hc, hg, h3 i a x ha hx, hcell⟩

/-- Arguments that are being appended to. -/
def OwnI (w : World) (base : Nat) (e : TypeId) (v : Value) (al : List Arg) : Prop :=
  ∃ cs : List (List Value), Own w base e 4 v cs ∧ cs.length = al.length ∧ ∀ (i : Nat) (a : Arg) (c : List Value), al[i]? = some a → cs[i]? = some c → ICellS w (Off base w v) c a
theorem OwnI.nil_ (W : World) (base : Nat) (e : TypeId) : OwnI W base e (.slice none 0 0) [] := ⟨[], Own.nil_ _ _ _ _, rfl, fun _ _ _ h => by simp at h⟩
theorem OwnI.irow {w : World} {base : Nat} {e : TypeId} {v : Value} {al : List Arg} (h : OwnI w base e v al) : IRow w w.heap.size v al := by
  obtain ⟨cs, h1, h2, h3⟩ := h
  exact ⟨cs, h1.rowS.mono fun b h => h.2, h2, fun i a c ha hc => (h3 i a c ha hc).mono fun b h => h.2.1⟩
theorem OwnI.below {w w' : World} {base : Nat} {e : TypeId} {v : Value} {al : List Arg} (h : OwnI w base e v al) (hb : Below w.heap.size w w') : OwnI w' base e v al := by
  obtain ⟨cs, h1, h2, h3⟩ := h
  exact ⟨cs, h1.below hb, h2, fun i a c ha hc => ((h3 i a c ha hc).keep fun b h => hb.block b h.2.1).mono fun b h => ⟨h.1, Nat.lt_of_lt_of_le h.2.1 hb.size, h.2.2⟩⟩
theorem OwnI.snoc {w w' : World} {base : Nat} {e : TypeId} {v v' : Value} {al : List Arg} {cs : List (List Value)} {c : List Value} {a : Arg}
    (h1 : Own w' base e 4 v' (cs ++ [c])) (h2 : cs.length = al.length) (h3 : ∀ (i : Nat) (a : Arg) (c : List Value), al[i]? = some a → cs[i]? = some c → ICellS w (Off base w v) c a)
    (hc : ICellS w (Off base w v) c a) (hg : w.grownBy w' v.ownBlock) (hat : v'.ownBlock = v.ownBlock ∨ ∀ b, v'.ownBlock = some b → w.heap.size ≤ b) : OwnI w' base e v' (al ++ [a]) := by
  obtain ⟨k1, k2⟩ := grown_off (lo := base) hg hat
  exact ⟨cs ++ [c], h1, by rw [List.length_append, List.length_append, h2]; rfl,
    snoc_at (R := fun c a => ICellS w' (Off base w' v') c a) h2 (fun i x g hx hg => ((h3 i x g hx hg).keep k1).mono k2) ((hc.keep k1).mono k2)⟩
def OwnA (w : World) (base : Nat) (e : TypeId) (v : Value) (al : List Arg) : Prop :=
  ∃ cs : List (List Value), Own w base e 5 v cs ∧ cs.length = al.length ∧ ∀ (i : Nat) (a : Arg) (c : List Value), al[i]? = some a → cs[i]? = some c → ACellS w (Off base w v) c a
theorem OwnA.arow {w : World} {base : Nat} {e : TypeId} {v : Value} {al : List Arg} (h : OwnA w base e v al) : ARow w w.heap.size v al := by
  obtain ⟨cs, h1, h2, h3⟩ := h
  exact ⟨cs, h1.row, h2, fun i c a hc ha => (h3 i a c ha hc).cell fun b h => h.2.1⟩
theorem OwnA.below {w w' : World} {base : Nat} {e : TypeId} {v : Value} {al : List Arg} (h : OwnA w base e v al) (hb : Below w.heap.size w w') : OwnA w' base e v al := by
  obtain ⟨cs, h1, h2, h3⟩ := h
  exact ⟨cs, h1.below hb, h2, fun i a c ha hc => ((h3 i a c ha hc).keep fun b h => hb.block b h.2.1).mono fun b h => ⟨h.1, Nat.lt_of_lt_of_le h.2.1 hb.size, h.2.2⟩⟩
theorem OwnA.snoc {w w' : World} {base : Nat} {e : TypeId} {v v' : Value} {al : List Arg} {cs : List (List Value)} {c : List Value} {a : Arg}
    (h1 : Own w' base e 5 v' (cs ++ [c])) (h2 : cs.length = al.length) (h3 : ∀ (i : Nat) (a : Arg) (c : List Value), al[i]? = some a → cs[i]? = some c → ACellS w (Off base w v) c a)
    (hc : ACellS w (Off base w v) c a) (hg : w.grownBy w' v.ownBlock) (hat : v'.ownBlock = v.ownBlock ∨ ∀ b, v'.ownBlock = some b → w.heap.size ≤ b) : OwnA w' base e v' (al ++ [a]) := by
  obtain ⟨k1, k2⟩ := grown_off (lo := base) hg hat
  exact ⟨cs ++ [c], h1, by rw [List.length_append, List.length_append, h2]; rfl,
    snoc_at (R := fun c a => ACellS w' (Off base w' v') c a) h2 (fun i x g hx hg => ((h3 i x g hx hg).keep k1).mono k2) ((hc.keep k1).mono k2)⟩

/-- A part of the arguments. -/
theorem ARow.part {w : World} {B : Nat} {g o n c : Nat} {al : List Arg} (h : ARow w B (.slice (some ⟨g, o, none⟩) n c) al) (lo m c' : Nat) (hm : lo + m ≤ al.length) (hc' : m ≤ c') :
    ARow w B (.slice (some ⟨g, o + lo * 5, none⟩) m c') ((al.drop lo).take m) := by
  obtain ⟨cs, h1, h2, h3⟩ := h
  refine ⟨(cs.drop lo).take m, h1.part lo m c' (by omega) hc', by rw [List.length_take, List.length_take, List.length_drop, List.length_drop, h2], fun i cc a hcc ha => ?_⟩
  rw [List.getElem?_take] at hcc ha
  split at hcc
  · rw [if_pos (by assumption)] at ha
    rw [List.getElem?_drop] at hcc ha
    exact h3 (lo + i) cc a hcc ha
  · simp at hcc
/-- One table is an argument. -/
theorem ARow.one_tbl {w : World} {B : Nat} {v rv : Value} {rows : List (List FV)} (h : Row w B 5 v [[.int .i64 5, .int .i64 0, .int .i64 0, .string ⟨#[]⟩, rv]]) (hT : TRow w B rv rows) : ARow w B v [.tbl rows] := by
  refine ⟨_, h, rfl, fun i c a hc ha => ?_⟩
  have hi : i = 0 := by
    have := (List.getElem?_eq_some_iff.1 hc).1
    simpa using this
  subst hi
  have e1 : [.int .i64 5, .int .i64 0, .int .i64 0, .string ⟨#[]⟩, rv] = c := by simpa using hc
  have e2 : Arg.tbl rows = a := by simpa using ha
  subst e1 e2
  exact ⟨rv, rfl, hT⟩
theorem flats_tbl (rows : List (List FV)) : flats [.tbl rows] = rows.flatten := by simp [flats, Arg.flat]
/-- Argument i: its cells, and how the slice is spelled. -/
theorem ARow.at_ {w : World} {B : Nat} {v : Value} {al : List Arg} (h : ARow w B v al) {i : Nat} {a : Arg} (ha : al[i]? = some a) :
    ∃ g o c x, v = .slice (some ⟨g, o, none⟩) al.length c ∧ al.length ≤ c ∧ g < B ∧ ACell w B x a ∧ ∀ j u, x[j]? = some u → w.cell? ⟨g, o + i * 5 + j, none⟩ = some u := by
  obtain ⟨cs, h1, h2, h3⟩ := h
  have hi : i < al.length := (List.getElem?_eq_some_iff.1 ha).1
  obtain ⟨x, hx⟩ : ∃ x, cs[i]? = some x := ⟨_, List.getElem?_eq_getElem (by omega)⟩
  obtain ⟨g, o, c, e, hc, hg, hcell⟩ := h1.at_ hx
  rw [h2] at e hc
  exact ⟨g, o, c, x, e, hc, hg, h3 i x a hx ha, hcell⟩
theorem ARow.len {w : World} {B : Nat} {v : Value} {al : List Arg} (h : ARow w B v al) : ∃ A c, v = .slice A al.length c ∧ al.length ≤ c := by
  obtain ⟨cs, ⟨A, c, e, hc, _⟩, h2, _⟩ := h
  rw [h2] at e hc
  exact ⟨A, c, e, hc⟩
theorem TRow.len {w : World} {B : Nat} {rv : Value} {rows : List (List FV)} (h : TRow w B rv rows) : ∃ A c, rv = .slice A rows.length c ∧ rows.length ≤ c := h.s.len

end Go.Proofs.YtkglbccdiofnkaaGreatDoor
