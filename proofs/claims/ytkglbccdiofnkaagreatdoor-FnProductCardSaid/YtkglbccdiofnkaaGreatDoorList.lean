/-
container/list: a list as a ring of blocks; New, PushBack, Len, Front, Back, Next.
-/
import Derived.Test.YtkglbccdiofnkaaGreatDoorNum
import Derived.LaidEqlPtr
import Derived.Lib.Builder
namespace Go.Proofs.YtkglbccdiofnkaaGreatDoor
open Go.RowKit

def nx (l : Nat) (es : List (Nat × Value)) (i : Nat) : Nat := match es[i]? with
  | some e => e.1
  | none => l
def pv (l : Nat) (es : List (Nat × Value)) : Nat → Nat
  | 0 => l
  | k + 1 => nx l es k

/-- The list at block l holds the elements es: each one's block, and its value. -/
structure Ring (w : World) (l : Nat) (es : List (Nat × Value)) : Prop where
  head : w.heap[l]? = some (.cells #[.pointer (some ⟨nx l es 0, 0, none⟩), .pointer (some ⟨pv l es es.length, 0, none⟩), .pointer none, .nilIface, .int .i64 es.length] 128)
  elem : ∀ (i e : Nat) (v : Value), es[i]? = some (e, v) → w.heap[e]? = some (.cells #[.pointer (some ⟨nx l es (i + 1), 0, none⟩), .pointer (some ⟨pv l es i, 0, none⟩), .pointer (some ⟨l, 0, none⟩), v] 89)
  order : ∀ (i j : Nat) (e e' : Nat × Value), es[i]? = some e → es[j]? = some e' → i < j → e.1 < e'.1
  above : ∀ e ∈ es, l < e.1

theorem heap_lt {w : World} {g : Nat} {o : Obj} (h : w.heap[g]? = some o) : g < w.heap.size := (Array.getElem?_eq_some_iff.1 h).1
theorem heap_set_same {w : World} {g j : Nat} {cs : Array Value} {T : TypeId} (h : w.heap[g]? = some (.cells cs T)) (v : Value) : (w.setCell ⟨g, j, none⟩ v).heap[g]? = some (.cells (cs.setIfInBounds j v) T) := by
  simp [World.setCell, Array.getElem?_modify, h]
theorem heap_set_far {w : World} {g k j : Nat} (h : k ≠ g) (v : Value) : (w.setCell ⟨g, j, none⟩ v).heap[k]? = w.heap[k]? := Below.heap_setCell w ⟨g, j, none⟩ v k h

theorem Ring.below {w w' : World} {l : Nat} {es : List (Nat × Value)} (h : Ring w l es) (hb : Below w.heap.size w w') : Ring w' l es :=
  ⟨(hb.block l (heap_lt h.head)).trans h.head, fun i e v he => (hb.block e (heap_lt (h.elem i e v he))).trans (h.elem i e v he), h.order, h.above⟩

theorem new_any (w : World) :
    Calls Tryz.prog 67 #[] w fun e w' => e = .returned (.pointer (some ⟨w.heap.size, 0, none⟩)) ∧ Ring w' w.heap.size [] ∧ Below w.heap.size w w' ∧ w.heap.size < w'.heap.size := by
  go_enter Tryz.func67, Tryz.ntmps67
  go_wp2
  go_ret
  refine ⟨rfl, ⟨heap_alloc_new _ _, fun i e v h => by simp at h, fun i j e e' h => by simp at h, fun e h => by simp at h⟩, (Below.refl _ _).alloc (Nat.le_refl _) _, by simp⟩

theorem row_facts {w : World} {g : Nat} {cs : Array Value} {T : TypeId} (h : w.heap[g]? = some (.cells cs T)) : (∀ j, w.cell? ⟨g, j, none⟩ = cs[j]?) ∧ (∀ j, w.frozen? ⟨g, j, none⟩ = false) ∧ g < w.heap.size := by
  refine ⟨fun j => cell_of_row _ _ _ _ _ _ h, fun j => ?_, heap_lt h⟩
  unfold World.frozen?
  simp only [h]
  simp

/-- What PushBack leaves: one more behind block a, the list at l, that had n elements. -/
def pushed (w : World) (l a : Nat) (n : Int) (v : Value) : World :=
  (((w.setCell ⟨a, 0, none⟩ (.pointer (some ⟨w.heap.size, 0, none⟩))).setCell ⟨l, 1, none⟩ (.pointer (some ⟨w.heap.size, 0, none⟩))).setCell ⟨l, 4, none⟩ (.int .i64 (n + 1))).alloc
    (.cells #[.pointer (some ⟨l, 0, none⟩), .pointer (some ⟨a, 0, none⟩), .pointer (some ⟨l, 0, none⟩), v] 89)

set_option maxHeartbeats 1000000 in
theorem push_raw (l a n : Nat) (p0n : Nat) (q1 q2 v0 : Value) (u : TypeId) (x : Value) (w : World) (_hal : a ≠ l) (_hn : n ≤ 1000000)
    (hl : w.heap[l]? = some (.cells #[.pointer (some ⟨p0n, 0, none⟩), .pointer (some ⟨a, 0, none⟩), .pointer none, .nilIface, .int .i64 n] 128))
    (ha : w.heap[a]? = some (.cells #[.pointer (some ⟨l, 0, none⟩), q1, q2, v0] 89)) :
    Calls Tryz.prog 68 #[.pointer (some ⟨l, 0, none⟩), .iface u x] w fun e w' => e = .returned (.pointer (some ⟨w.heap.size, 0, none⟩)) ∧ w' = pushed w l a n (.iface u x) := by
  obtain ⟨cl, fl, zl⟩ := row_facts hl
  obtain ⟨ca, fa, za⟩ := row_facts ha
  clear hl ha
  go_enter Tryz.func68, Tryz.ntmps68
  go_wp2
  go_end0
  go_wp2
  go_ret
  exact ⟨rfl, rfl⟩

set_option maxHeartbeats 1000000 in
theorem push_raw0 (l : Nat) (u : TypeId) (x : Value) (w : World)
    (hl : w.heap[l]? = some (.cells #[.pointer (some ⟨l, 0, none⟩), .pointer (some ⟨l, 0, none⟩), .pointer none, .nilIface, .int .i64 0] 128)) :
    Calls Tryz.prog 68 #[.pointer (some ⟨l, 0, none⟩), .iface u x] w fun e w' => e = .returned (.pointer (some ⟨w.heap.size, 0, none⟩)) ∧ w' = pushed w l l 0 (.iface u x) := by
  obtain ⟨cl, fl, zl⟩ := row_facts hl
  clear hl
  go_enter Tryz.func68, Tryz.ntmps68
  go_wp2
  go_end0
  go_wp2
  go_ret
  exact ⟨rfl, rfl⟩

theorem pushed_size (w : World) (l a : Nat) (n : Int) (v : Value) : (pushed w l a n v).heap.size = w.heap.size + 1 := by
  simp [pushed, World.setCell]
theorem pushed_new (w : World) (l a : Nat) (n : Int) (v : Value) : (pushed w l a n v).heap[w.heap.size]? = some (.cells #[.pointer (some ⟨l, 0, none⟩), .pointer (some ⟨a, 0, none⟩), .pointer (some ⟨l, 0, none⟩), v] 89) := by
  have h := heap_alloc_new (((w.setCell ⟨a, 0, none⟩ (.pointer (some ⟨w.heap.size, 0, none⟩))).setCell ⟨l, 1, none⟩ (.pointer (some ⟨w.heap.size, 0, none⟩))).setCell ⟨l, 4, none⟩ (.int .i64 (n + 1))) (.cells #[.pointer (some ⟨l, 0, none⟩), .pointer (some ⟨a, 0, none⟩), .pointer (some ⟨l, 0, none⟩), v] 89)
  have e : (((w.setCell ⟨a, 0, none⟩ (.pointer (some ⟨w.heap.size, 0, none⟩))).setCell ⟨l, 1, none⟩ (.pointer (some ⟨w.heap.size, 0, none⟩))).setCell ⟨l, 4, none⟩ (.int .i64 (n + 1))).heap.size = w.heap.size := by simp [World.setCell]
  rw [e] at h
  exact h
theorem pushed_old (w : World) (l a : Nat) (n : Int) (v : Value) (k : Nat) (hk : k < w.heap.size) : (pushed w l a n v).heap[k]? = (((w.setCell ⟨a, 0, none⟩ (.pointer (some ⟨w.heap.size, 0, none⟩))).setCell ⟨l, 1, none⟩ (.pointer (some ⟨w.heap.size, 0, none⟩))).setCell ⟨l, 4, none⟩ (.int .i64 (n + 1))).heap[k]? := by
  unfold pushed
  rw [Below.heap_alloc _ _ _ (by simpa [World.setCell] using hk)]
theorem pushed_far (w : World) (l a : Nat) (n : Int) (v : Value) (k : Nat) (hk : k < w.heap.size) (h1 : k ≠ l) (h2 : k ≠ a) : (pushed w l a n v).heap[k]? = w.heap[k]? := by
  rw [pushed_old w l a n v k hk, heap_set_far h1, heap_set_far h1, heap_set_far h2]
theorem pushed_below (w : World) (l a : Nat) (n : Int) (v : Value) (B : Nat) (hl : B ≤ l) (ha : B ≤ a) (hB : B ≤ w.heap.size) : Below B w (pushed w l a n v) := by
  unfold pushed
  exact (((Below.refl B w).setCell (p := ⟨a, 0, none⟩) ha _).setCell (p := ⟨l, 1, none⟩) hl _).setCell (p := ⟨l, 4, none⟩) hl _ |>.alloc (by simpa [World.setCell] using hB) _

theorem nx_snoc_old (l : Nat) (es : List (Nat × Value)) (p : Nat × Value) (i : Nat) (h : i < es.length) : nx l (es ++ [p]) i = nx l es i := by
  unfold nx
  rw [List.getElem?_append_left h]
theorem nx_snoc_new (l : Nat) (es : List (Nat × Value)) (p : Nat × Value) : nx l (es ++ [p]) es.length = p.1 := by
  unfold nx
  simp
theorem nx_out (l : Nat) (es : List (Nat × Value)) (i : Nat) (h : es.length ≤ i) : nx l es i = l := by
  unfold nx
  rw [List.getElem?_eq_none h]
theorem pv_snoc (l : Nat) (es : List (Nat × Value)) (p : Nat × Value) (i : Nat) (h : i ≤ es.length) : pv l (es ++ [p]) i = pv l es i := by
  cases i with
  | zero => rfl
  | succ k => exact nx_snoc_old l es p k (by omega)

theorem ring_push {w : World} {l : Nat} {es : List (Nat × Value)} (hR : Ring w l es) (v : Value) :
    Ring (pushed w l (pv l es es.length) es.length v) l (es ++ [(w.heap.size, v)]) := by
  have hl := heap_lt hR.head
  have hlast : ∀ e x, es[es.length - 1]? = some (e, x) → pv l es es.length = e := by
    intro e x h
    cases hn : es.length with
    | zero =>
      rw [List.getElem?_eq_none (by omega)] at h
      cases h
    | succ k =>
      rw [hn] at h
      show nx l es k = e
      unfold nx
      rw [show k = k + 1 - 1 by omega, h]
  have hblk : ∀ e ∈ es, e.1 < w.heap.size := by
    intro e he
    obtain ⟨i, hi⟩ := List.getElem?_of_mem he
    exact heap_lt (hR.elem i e.1 e.2 hi)
  refine ⟨?_, ?_, ?_, ?_⟩
  · rw [pushed_old _ _ _ _ _ _ hl]
    rcases Nat.eq_zero_or_pos es.length with h0 | h0
    · have hes := List.eq_nil_of_length_eq_zero h0
      subst hes
      have h1 := hR.head
      simp only [nx, pv, List.length_nil, List.getElem?_nil] at h1
      have h2 := heap_set_same (j := 0) h1 (.pointer (some ⟨w.heap.size, 0, none⟩))
      have h3 := heap_set_same (j := 1) h2 (.pointer (some ⟨w.heap.size, 0, none⟩))
      have h4 := heap_set_same (j := 4) h3 (.int .i64 (((0 : Nat) : Int) + 1))
      simpa [nx, pv] using h4
    · obtain ⟨k, hk⟩ : ∃ k, es.length = k + 1 := ⟨es.length - 1, by omega⟩
      have hlt : k < es.length := by omega
      have hne : l ≠ pv l es es.length := by
        rw [hlast es[k].1 es[k].2 (by rw [hk]; exact List.getElem?_eq_getElem hlt)]
        have := hR.above es[k] (List.getElem_mem hlt)
        omega
      have h2 : (w.setCell ⟨pv l es es.length, 0, none⟩ (.pointer (some ⟨w.heap.size, 0, none⟩))).heap[l]? = _ := (heap_set_far hne _).trans hR.head
      have h3 := heap_set_same (j := 1) h2 (.pointer (some ⟨w.heap.size, 0, none⟩))
      have h4 := heap_set_same (j := 4) h3 (.int .i64 ((es.length : Int) + 1))
      rw [h4]
      have e1 : nx l (es ++ [(w.heap.size, v)]) 0 = nx l es 0 := nx_snoc_old _ _ _ _ h0
      have e2 : pv l (es ++ [(w.heap.size, v)]) (es ++ [(w.heap.size, v)]).length = w.heap.size := by
        rw [List.length_append]
        exact nx_snoc_new l es _
      rw [e1, e2, List.length_append]
      simp
  · intro i e x he
    rcases Nat.lt_or_ge i es.length with hi | hi
    · rw [List.getElem?_append_left hi] at he
      have hm : (e, x) ∈ es := List.mem_of_getElem? he
      have hel : e < w.heap.size := hblk _ hm
      have hab := hR.above _ hm
      have hcell := hR.elem i e x he
      rw [pv_snoc l es _ i (by omega)]
      rw [pushed_old _ _ _ _ _ _ hel, heap_set_far (by show e ≠ l; have : l < e := hab; omega), heap_set_far (by show e ≠ l; have : l < e := hab; omega)]
      rcases Nat.lt_or_ge (i + 1) es.length with hi' | hi'
      · have hne : e ≠ pv l es es.length := by
          obtain ⟨k, hk⟩ : ∃ k, es.length = k + 1 := ⟨es.length - 1, by omega⟩
          have hlt : k < es.length := by omega
          rw [hlast es[k].1 es[k].2 (by rw [hk]; exact List.getElem?_eq_getElem hlt)]
          have := hR.order i k (e, x) es[k] he (List.getElem?_eq_getElem hlt) (by omega)
          have h' : e < es[k].1 := this
          omega
        rw [heap_set_far hne, nx_snoc_old l es _ (i + 1) hi']
        exact hcell
      · have hie : i + 1 = es.length := by omega
        have hpe : pv l es es.length = e := hlast e x (by rw [← hie]; exact he)
        rw [hpe, hie, nx_snoc_new]
        have h2 := heap_set_same (j := 0) hcell (.pointer (some ⟨w.heap.size, 0, none⟩))
        rw [h2]
        simp
    · have hi2 : i = es.length := by
        have := (List.getElem?_eq_some_iff.1 he).1
        rw [List.length_append, List.length_singleton] at this
        omega
      subst hi2
      simp at he
      obtain ⟨rfl, rfl⟩ := he
      rw [pushed_new, pv_snoc l es _ _ (Nat.le_refl _), nx_out _ _ _ (by simp)]
  · intro i j e e' hi hj hij
    rcases Nat.lt_or_ge j es.length with hj' | hj'
    · rw [List.getElem?_append_left hj'] at hj
      rw [List.getElem?_append_left (by omega)] at hi
      exact hR.order i j e e' hi hj hij
    · have hj2 : j = es.length := by
        have := (List.getElem?_eq_some_iff.1 hj).1
        rw [List.length_append, List.length_singleton] at this
        omega
      subst hj2
      simp at hj
      subst hj
      rw [List.getElem?_append_left hij] at hi
      exact hblk e (List.mem_of_getElem? hi)
  · intro e he
    rcases List.mem_append.1 he with h | h
    · exact hR.above e h
    · simp at h; subst h; exact hl

theorem push_any {l : Nat} {es : List (Nat × Value)} (u : TypeId) (x : Value) (w : World) (hR : Ring w l es) (hn : es.length ≤ 1000000) :
    Calls Tryz.prog 68 #[.pointer (some ⟨l, 0, none⟩), .iface u x] w fun e w' => e = .returned (.pointer (some ⟨w.heap.size, 0, none⟩)) ∧ Ring w' l (es ++ [(w.heap.size, .iface u x)]) ∧ (∀ B, B ≤ l → Below B w w') ∧ w'.heap.size = w.heap.size + 1 := by
  have hl := heap_lt hR.head
  have key : ∀ w', w' = pushed w l (pv l es es.length) es.length (.iface u x) → Ring w' l (es ++ [(w.heap.size, .iface u x)]) ∧ (∀ B, B ≤ l → Below B w w') ∧ w'.heap.size = w.heap.size + 1 := by
    rintro w' rfl
    refine ⟨ring_push hR _, fun B hB => pushed_below w l _ _ _ B hB ?_ (by omega), pushed_size ..⟩
    cases hn' : es.length with
    | zero => exact hB
    | succ k =>
      show B ≤ nx l es k
      have hlt : k < es.length := by omega
      have := hR.above es[k] (List.getElem_mem hlt)
      have e : nx l es k = es[k].1 := by unfold nx; rw [List.getElem?_eq_getElem hlt]
      omega
  rcases Nat.eq_zero_or_pos es.length with h0 | h0
  · have hes := List.eq_nil_of_length_eq_zero h0
    subst hes
    have h1 := hR.head
    simp only [nx, pv, List.length_nil, List.getElem?_nil] at h1
    exact (push_raw0 l u x w h1).mono fun e w' ⟨he, hw⟩ => ⟨he, key w' hw⟩
  · obtain ⟨k, hk⟩ : ∃ k, es.length = k + 1 := ⟨es.length - 1, by omega⟩
    have hlt : k < es.length := by omega
    have hab := hR.above es[k] (List.getElem_mem hlt)
    have hpv : pv l es es.length = es[k].1 := by
      rw [hk]
      show nx l es k = _
      unfold nx
      rw [List.getElem?_eq_getElem hlt]
    have hcell := hR.elem k es[k].1 es[k].2 (List.getElem?_eq_getElem hlt)
    rw [nx_out _ _ _ (by omega)] at hcell
    have h1 := hR.head
    rw [hpv] at h1 key
    exact (push_raw l es[k].1 es.length _ _ _ _ u x w (by omega) hn h1 hcell).mono fun e w' ⟨he, hw⟩ => ⟨he, key w' hw⟩

theorem len_any {l : Nat} {es : List (Nat × Value)} (w : World) (hR : Ring w l es) :
    Calls Tryz.prog 70 #[.pointer (some ⟨l, 0, none⟩)] w fun e w' => e = .returned (.int .i64 es.length) ∧ w = w' := by
  obtain ⟨cl, fl, zl⟩ := row_facts hR.head
  clear hR
  go_enter Tryz.func70, Tryz.ntmps70
  go_wp2
  go_ret
  exact ⟨rfl, rfl⟩

theorem front_some {l : Nat} {es : List (Nat × Value)} (w : World) (hR : Ring w l es) (h0 : 0 < es.length) :
    Calls Tryz.prog 63 #[.pointer (some ⟨l, 0, none⟩)] w fun e w' => e = .returned (.pointer (some ⟨nx l es 0, 0, none⟩)) ∧ w = w' := by
  obtain ⟨cl, fl, zl⟩ := row_facts hR.head
  have t : ((es.length : Int) == 0) = false := by rw [beq_eq_false_iff_ne]; omega
  clear hR
  go_enter Tryz.func63, Tryz.ntmps63
  go_wp2
  go_ret
  exact ⟨rfl, rfl⟩
theorem front_none {l : Nat} (w : World) (hR : Ring w l []) :
    Calls Tryz.prog 63 #[.pointer (some ⟨l, 0, none⟩)] w fun e w' => e = .returned (.pointer none) ∧ w = w' := by
  obtain ⟨cl, fl, zl⟩ := row_facts hR.head
  clear hR
  go_enter Tryz.func63, Tryz.ntmps63
  go_wp2
  go_ret
  exact ⟨rfl, rfl⟩
theorem back_some {l : Nat} {es : List (Nat × Value)} (w : World) (hR : Ring w l es) (h0 : 0 < es.length) :
    Calls Tryz.prog 73 #[.pointer (some ⟨l, 0, none⟩)] w fun e w' => e = .returned (.pointer (some ⟨pv l es es.length, 0, none⟩)) ∧ w = w' := by
  obtain ⟨cl, fl, zl⟩ := row_facts hR.head
  have t : ((es.length : Int) == 0) = false := by rw [beq_eq_false_iff_ne]; omega
  clear hR
  go_enter Tryz.func73, Tryz.ntmps73
  go_wp2
  go_ret
  exact ⟨rfl, rfl⟩
theorem run_neq_ptr_other {P : Program} (w : World) {tp te : TypeId} {a b : Addr} {ca cb : Array Value} {ta tb : TypeId} (hp : P.underlying tp = some (.pointer te)) (hte : ((P.info? te).map fun i => i.size) = some 4)
    (hne : a ≠ b) (ha : w.heap[a.block]? = some (.cells ca ta)) (hb : w.heap[b.block]? = some (.cells cb tb)) :
    (binOp .neq tp (.pointer (some a)) (.pointer (some b))).run P w = .ok (.bool true) w := by
  obtain ⟨j, hj, hs⟩ := Option.map_eq_some_iff.1 hte
  have hsz : j.size ≠ 0 := by omega
  have h : ∀ d : Nat, (Op.equalIn (d + 1) tp (.pointer (some a)) (.pointer (some b))).run P w = .ok false w := fun d => by
    simp [Op.equalIn, run_underlying hp, sizeOf, typeInfo, hj, hsz, run_sameAddr_other w hne ha hb]
  simp only [binOp]
  simp [Op.equal, Op.maxDepth, h 9999]
theorem run_neq_ptr_same' {P : Program} (w : World) {tp te : TypeId} (a : Addr) (hp : P.underlying tp = some (.pointer te)) (hte : ((P.info? te).map fun i => i.size) = some 4) :
    (binOp .neq tp (.pointer (some a)) (.pointer (some a))).run P w = .ok (.bool false) w := by
  obtain ⟨j, hj, _⟩ := Option.map_eq_some_iff.1 hte
  exact Lib.run_neq_ptr_same w a hp hj
theorem elemSize : ((Tryz.prog.info? 89).map fun i => i.size) = some 4 := by kernel_rfl

/-- 'Next' of element i: the one behind it, nil behind the last one. -/
def nxp (es : List (Nat × Value)) (i : Nat) : Option Addr := match es[i]? with
  | some e => some ⟨e.1, 0, none⟩
  | none => none
set_option maxRecDepth 100000 in
theorem next_any {l : Nat} {es : List (Nat × Value)} (w : World) (hR : Ring w l es) (i : Nat) (e : Nat) (v : Value) (he : es[i]? = some (e, v)) :
    Calls Tryz.prog 64 #[.pointer (some ⟨e, 0, none⟩)] w fun e w' => e = .returned (.pointer (nxp es (i + 1))) ∧ w = w' := by
  obtain ⟨cl, fl, zl⟩ := row_facts (hR.elem i e v he)
  cases hn : es[i + 1]? with
  | none =>
    have e1 : nx l es (i + 1) = l := by unfold nx; rw [hn]
    have e2 : nxp es (i + 1) = none := by unfold nxp; rw [hn]
    have hcmp := run_neq_ptr_same' (P := Tryz.prog) w ⟨l, 0, none⟩ Tryz.underlying86 elemSize
    rw [e2]
    rw [e1] at cl
    clear hR e1 e2 hn he
    go_enter Tryz.func64, Tryz.ntmps64
    go_wp2
    go_ret
    exact ⟨rfl, rfl⟩
  | some p =>
    have e1 : nx l es (i + 1) = p.1 := by unfold nx; rw [hn]
    have e2 : nxp es (i + 1) = some ⟨p.1, 0, none⟩ := by unfold nxp; rw [hn]
    have hpl : l < p.1 := hR.above p (List.mem_of_getElem? hn)
    have hcmp := run_neq_ptr_other (P := Tryz.prog) w Tryz.underlying86 elemSize (a := ⟨p.1, 0, none⟩) (b := ⟨l, 0, none⟩) (fun h => by have h2 : p.1 = l := congrArg Addr.block h; omega) (hR.elem (i + 1) p.1 p.2 hn) hR.head
    rw [e2]
    rw [e1] at cl
    clear hR e1 e2 hn he
    go_enter Tryz.func64, Tryz.ntmps64
    go_wp2
    go_ret
    exact ⟨rfl, rfl⟩

end Go.Proofs.YtkglbccdiofnkaaGreatDoor
