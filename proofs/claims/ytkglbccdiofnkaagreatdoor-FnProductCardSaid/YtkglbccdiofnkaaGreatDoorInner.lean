/-
The package's values made of plain ones, and the list of them: 'innerArg', 'innerList', at values that are no matrices.
-/
import Derived.Test.YtkglbccdiofnkaaGreatDoorList
namespace Go.Proofs.YtkglbccdiofnkaaGreatDoor
open Go.RowKit Go.Fl

theorem below_set1 {w w1 : World} (h : Below w.heap.size w w1) (j : Nat) (v : Value) : Below w.heap.size w (w1.setCell ⟨w.heap.size + 1, j, none⟩ v) := h.setCell (p := ⟨w.heap.size + 1, j, none⟩) (Nat.le_succ _) v
theorem below_two {w w1 : World} {A B : Obj} (h : Below ((w.alloc A).alloc B).heap.size ((w.alloc A).alloc B) w1) : Below w.heap.size w w1 :=
  (((Below.refl w.heap.size w).alloc (Nat.le_refl _) A).alloc (by simp) B).trans (h.mono (by simp; omega))
theorem below_one {w w1 : World} {A : Obj} (h : Below (w.alloc A).heap.size (w.alloc A) w1) : Below w.heap.size w w1 :=
  ((Below.refl w.heap.size w).alloc (Nat.le_refl _) A).trans (h.mono (by simp))

/-- The cells of a value of the package. -/
abbrev GA.cells (g : GA) : List Value := [.string ⟨#[]⟩, .float .f64 g.num, .string g.str, .slice none 0 0, .slice none 0 0, .bool g.bool, .string g.err, .int .u8 g.type, .pointer none, .pointer none]

/-- The package's value that is made of a value of the reference. -/
def Inner (x : FV) (g : GA) : Prop :=
  (x.kind = 1 → ∃ y, Sx y x.six ∧ g = ⟨y, ⟨#[]⟩, false, ⟨#[]⟩, 1⟩) ∧
  (x.kind = 2 → g = ⟨0, x.text, false, ⟨#[]⟩, 2⟩) ∧
  (x.kind = 3 → g = ⟨tw (decide (x.num ≠ 0)), ⟨#[]⟩, true, ⟨#[]⟩, 1⟩) ∧
  (x.kind = 4 → g = ⟨0, x.text, false, x.text, 5⟩) ∧
  (x.kind ≠ 1 → x.kind ≠ 2 → x.kind ≠ 3 → x.kind ≠ 4 → g = ⟨0, ⟨#[]⟩, false, ⟨#[]⟩, 6⟩)

set_option maxRecDepth 100000 in
set_option maxHeartbeats 1000000 in
theorem innerArg_one (x : FV) (w : World) (hx : x.ok) :
    Calls Tryz.prog 69 #[.agg #[.int .i64 x.kind, .float .f64 (sx x.six), .string x.text, .slice none 0 0]] w
      fun e w' => ∃ g, Inner x g ∧ e = .returned (.agg #[.string ⟨#[]⟩, .float .f64 g.num, .string g.str, .slice none 0 0, .slice none 0 0, .bool g.bool, .string g.err, .int .u8 g.type, .pointer none, .pointer none]) ∧ Below w.heap.size w w' := by
  have hu59 := Tryz.underlying55
  have hu80 := Tryz.underlying71
  have hsx : Sx (sx x.six) x.six := Sx.sx (six_bound x hx).1 (six_bound x hx).2
  by_cases h1 : x.kind = 1
  · have HI : Hid (∀ y, Sx y x.six → Inner x ⟨y, ⟨#[]⟩, false, ⟨#[]⟩, 1⟩) := fun y hy => by
      refine ⟨fun _ => ⟨y, hy, rfl⟩, fun h => ?_, fun h => ?_, fun h => ?_, fun h => ?_⟩ <;> omega
    have HS := Lib.hid hsx
    rw [h1]
    clear h1 hsx hx
    go_enter Tryz.func69, Tryz.ntmps69
    go_wp2_with (go_at_call 66; refine (newNum_any _ x.six _ HS.out).mono ?_; rintro e w1 ⟨y, hy, rfl, hb1⟩; obtain ⟨cb, fb, zb, kb⟩ := box_cells (heap_new2b _ _ _) hb1; have HY := Lib.hid hy; clear hy)
    refine bodyPost_ret (v := .agg #[.string ⟨#[]⟩, .float .f64 y, .string ⟨#[]⟩, .slice none 0 0, .slice none 0 0, .bool false, .string ⟨#[]⟩, .int .u8 1, .pointer none, .pointer none]) (by simp [results, Tryz.results69, go_sem, cb]) rfl ⟨⟨y, ⟨#[]⟩, false, ⟨#[]⟩, 1⟩, HI.out y HY.out, rfl, ?_⟩
    have pb := below_two hb1
    clear cb fb
    (repeat refine below_set1 ?_ _ _)
    exact pb
  · by_cases h2 : x.kind = 2
    · have HI : Hid (Inner x ⟨0, x.text, false, ⟨#[]⟩, 2⟩) := by
        refine ⟨fun h => ?_, fun h => ?_, fun h => ?_, fun h => ?_, fun h _ _ _ => ?_⟩ <;> first | rfl | omega
      rw [h2]
      clear h1 h2 hsx hx
      go_enter Tryz.func69, Tryz.ntmps69
      go_wp2_with (go_at_call 81; refine (newStr_any _ _).mono ?_; rintro e w1 ⟨rfl, hb1⟩; obtain ⟨cb, fb, zb, kb⟩ := box_cells (heap_new2b _ _ _) hb1)
      refine bodyPost_ret (v := .agg #[.string ⟨#[]⟩, .float .f64 0, .string x.text, .slice none 0 0, .slice none 0 0, .bool false, .string ⟨#[]⟩, .int .u8 2, .pointer none, .pointer none]) (by simp [results, Tryz.results69, go_sem, cb]) rfl ⟨⟨0, x.text, false, ⟨#[]⟩, 2⟩, HI.out, rfl, ?_⟩
      have pb := below_two hb1
      clear cb fb
      (repeat refine below_set1 ?_ _ _)
      exact pb
    · by_cases h3 : x.kind = 3
      · have HI : Hid (Inner x ⟨tw (decide (x.num ≠ 0)), ⟨#[]⟩, true, ⟨#[]⟩, 1⟩) := by
          refine ⟨fun h => ?_, fun h => ?_, fun h => ?_, fun h => ?_, fun h _ _ _ => ?_⟩ <;> first | rfl | omega
        have e6 : x.six = 16 * x.num := by unfold FV.six; rw [if_neg h1, if_pos h3]
        have hc : (FloatKind.f64.format.order (sx x.six) 0 != some .eq) = decide (x.num ≠ 0) := (Sx.ne_ hsx Sx.zero).trans (by rw [e6]; by_cases h0 : x.num = 0 <;> simp [h0])
        rw [h3]
        clear h1 h2 h3 hsx hx e6
        go_enter Tryz.func69, Tryz.ntmps69
        go_wp2_with (go_at_call 156; refine (newBool_any _ _).mono ?_; rintro e w1 ⟨rfl, hb1⟩; obtain ⟨cb, fb, zb, kb⟩ := box_cells (heap_new2b _ _ _) hb1)
        refine bodyPost_ret (v := .agg #[.string ⟨#[]⟩, .float .f64 (tw (decide (x.num ≠ 0))), .string ⟨#[]⟩, .slice none 0 0, .slice none 0 0, .bool true, .string ⟨#[]⟩, .int .u8 1, .pointer none, .pointer none]) (by simp [results, Tryz.results69, go_sem, cb]) rfl ⟨⟨(tw (decide (x.num ≠ 0))), ⟨#[]⟩, true, ⟨#[]⟩, 1⟩, HI.out, rfl, ?_⟩
        have pb := below_two hb1
        clear cb fb
        (repeat refine below_set1 ?_ _ _)
        exact pb
      · by_cases h4 : x.kind = 4
        · have HI : Hid (Inner x ⟨0, x.text, false, x.text, 5⟩) := by
            refine ⟨fun h => ?_, fun h => ?_, fun h => ?_, fun h => ?_, fun h _ _ _ => ?_⟩ <;> first | rfl | omega
          rw [h4]
          clear h1 h2 h3 h4 hsx hx
          go_enter Tryz.func69, Tryz.ntmps69
          go_wp2_with (go_at_call 71; refine (newErr_any _ _ _).mono ?_; rintro e w1 ⟨rfl, hb1⟩; obtain ⟨cb, fb, zb, kb⟩ := box_cells (heap_new2b _ _ _) hb1)
          refine bodyPost_ret (v := .agg #[.string ⟨#[]⟩, .float .f64 0, .string x.text, .slice none 0 0, .slice none 0 0, .bool false, .string x.text, .int .u8 5, .pointer none, .pointer none]) (by simp [results, Tryz.results69, go_sem, cb]) rfl ⟨⟨0, x.text, false, x.text, 5⟩, HI.out, rfl, ?_⟩
          have pb := below_two hb1
          clear cb fb
          (repeat refine below_set1 ?_ _ _)
          exact pb
        · have HI : Hid (Inner x ⟨0, ⟨#[]⟩, false, ⟨#[]⟩, 6⟩) := by
            refine ⟨fun h => ?_, fun h => ?_, fun h => ?_, fun h => ?_, fun h _ _ _ => ?_⟩ <;> first | rfl | omega
          have t1 : (x.kind == 1) = false := by simpa using h1
          have t2 : (x.kind == 2) = false := by simpa using h2
          have t3 : (x.kind == 3) = false := by simpa using h3
          have t4 : (x.kind == 4) = false := by simpa using h4
          have t5 : (x.kind == 5) = false := by simpa using hx.notMatrix
          clear h1 h2 h3 h4 hsx hx
          go_enter Tryz.func69, Tryz.ntmps69
          go_wp2_with (go_at_call 157; refine (newEmpty_any _).mono ?_; rintro e w1 ⟨rfl, hb1⟩; obtain ⟨cb, fb, zb, kb⟩ := box_cells (heap_new2b _ _ _) hb1)
          refine bodyPost_ret (v := .agg #[.string ⟨#[]⟩, .float .f64 0, .string ⟨#[]⟩, .slice none 0 0, .slice none 0 0, .bool false, .string ⟨#[]⟩, .int .u8 6, .pointer none, .pointer none]) (by simp [results, Tryz.results69, go_sem, cb]) rfl ⟨⟨0, ⟨#[]⟩, false, ⟨#[]⟩, 6⟩, HI.out, rfl, ?_⟩
          have pb := below_two hb1
          clear cb fb
          (repeat refine below_set1 ?_ _ _)
          exact pb

/-- The list at l is made of these values of the reference. -/
structure IList (w : World) (l : Nat) (vs : List FV) (es : List (Nat × Value)) : Prop where
  ring : Ring w l es
  len : es.length = vs.length
  vals : ∀ (i : Nat) (x : FV) (p : Nat × Value), vs[i]? = some x → es[i]? = some p → ∃ g, Inner x g ∧ p.2 = .iface 71 (.agg #[.string ⟨#[]⟩, .float .f64 g.num, .string g.str, .slice none 0 0, .slice none 0 0, .bool g.bool, .string g.err, .int .u8 g.type, .pointer none, .pointer none])

theorem IList.snoc {w w' : World} {l : Nat} {vs : List FV} {es : List (Nat × Value)} {k : Nat} {x : FV} {p : Nat × Value} (h : IList w l (vs.take k) es) (hx : vs[k]? = some x) (hk : k ≤ vs.length) (hR : Ring w' l (es ++ [p]))
    (hg : ∃ g, Inner x g ∧ p.2 = .iface 71 (.agg #[.string ⟨#[]⟩, .float .f64 g.num, .string g.str, .slice none 0 0, .slice none 0 0, .bool g.bool, .string g.err, .int .u8 g.type, .pointer none, .pointer none])) :
    IList w' l (vs.take (k + 1)) (es ++ [p]) := by
  have hkl : k < vs.length := (List.getElem?_eq_some_iff.1 hx).1
  have hl : es.length = k := by rw [h.len, List.length_take]; omega
  refine ⟨hR, ?_, ?_⟩
  · rw [List.length_append, hl, List.length_take]
    simp
    omega
  · intro i y q hy hq
    rcases Nat.lt_or_ge i k with hi | hi
    · rw [List.getElem?_append_left (by omega)] at hq
      refine h.vals i y q ?_ hq
      rw [List.getElem?_take] at hy ⊢
      rw [if_pos (by omega)] at hy
      rw [if_pos hi]
      exact hy
    · have hik : i = k := by
        have := (List.getElem?_eq_some_iff.1 hq).1
        rw [List.length_append, List.length_singleton] at this
        omega
      subst hik
      rw [List.getElem?_append_right (by omega), hl, Nat.sub_self] at hq
      simp at hq
      subst hq
      rw [List.getElem?_take, if_pos (by omega), hx] at hy
      injection hy with hy
      subst hy
      exact hg

set_option maxRecDepth 100000 in
set_option maxHeartbeats 1000000 in
theorem innerList_flat (vs : List FV) (v : Value) (w : World) (hr : Row w w.heap.size 4 v (vs.map FV.ilist)) (hk : ∀ x ∈ vs, x.ok) (hn : vs.length ≤ 1000000) :
    Calls Tryz.prog 45 #[v] w fun e w' => ∃ l es, e = .returned (.pointer (some ⟨l, 0, none⟩)) ∧ IList w' l vs es ∧ w.heap.size ≤ l ∧ Below w.heap.size w w' := by
  obtain ⟨A, c, rfl, hc1, hc2, hc3⟩ := hr
  rw [List.length_map] at hc1 hc3 ⊢
  have hu59 := Tryz.underlying55
  go_enter Tryz.func45, Tryz.ntmps45
  go_wp2_with (go_at_call 67; refine (new_any _).mono ?_; rintro e w1 ⟨rfl, hR1, hb1, hz1⟩)
  obtain ⟨l, hl⟩ : ∃ l, l = w.heap.size := ⟨_, rfl⟩
  rw [← hl] at hR1
  have HR1 : Hid (IList w1 l (vs.take 0) []) := ⟨hR1, by simp, fun i x p h => by simp at h⟩
  have HL := Lib.hid hl
  clear hR1 hl
  go_loopw [9] (fun i wr => ∃ k es, k ≤ vs.length ∧ i = .int .i64 (k : Nat) ∧ IList wr w.heap.size (vs.take k) es ∧ Below w.heap.size w wr) (fun i _ => vs.length - (intOf i).toNat)
  case atStart => exact ⟨0, [], Nat.zero_le _, rfl, by have := HR1.out; rwa [HL.out] at this, hb1⟩
  case round =>
    obtain ⟨k, es, hk1, rfl, hI, hb⟩ := hrel
    by_cases hlt : k < vs.length
    · obtain ⟨g, o, rfl, hg, hcell⟩ := hc3 (by omega)
      obtain ⟨x, hxk⟩ : ∃ x, vs[k]? = some x := ⟨_, List.getElem?_eq_getElem hlt⟩
      have hok := hk x (List.mem_of_getElem? hxk)
      have hx : (vs.map FV.ilist)[k]? = some (FV.ilist x) := by rw [List.getElem?_map, hxk]; rfl
      have q : ∀ j u, (FV.ilist x)[j]? = some u → wr.cell? ⟨g, o + k * 4 + j, none⟩ = some u := fun j u hu => (hb.cell (p := ⟨g, o + k * 4 + j, none⟩) hg).trans (hcell k _ hx j u hu)
      have q0 := q 0 _ rfl
      have q1 := q 1 _ rfl
      have q2 := q 2 _ rfl
      have q3 := q 3 _ rfl
      have HX := Lib.hid hxk
      have HI := Lib.hid hI
      have HK : Hid (k < vs.length) := hlt
      have hel : es.length ≤ 1000000 := by rw [hI.len, List.length_take]; omega
      clear q hx hxk hcell hc3 hk hc2 hI
      simp only [Nat.add_zero] at q0
      go_wp2_with (first
        | (go_at_call 69; refine (innerArg_one x _ hok).mono ?_; rintro e w2 ⟨ga, hga, rfl, hb2⟩; have HG := Lib.hid hga; clear hga; have hb3 := below_one hb2)
        | (go_at_call 68; refine (push_any _ _ _ (HI.out.ring.below hb3) hel).mono ?_; rintro e w3 ⟨rfl, hR3, hb4, hz3⟩))
      have hlt := HK.out
      go_roundw
      case rel => exact ⟨k + 1, _, by omega, by go_num, HI.out.snoc HX.out hk1 hR3 ⟨ga, HG.out, rfl⟩, hb.trans ((hb3.mono hb.size).trans (hb4 _ (Nat.le_refl _)))⟩
      case measure => simp [intOf]; omega
    · obtain rfl : k = vs.length := by omega
      rw [List.take_length] at hI
      go_wp2
      go_ret
      exact ⟨_, es, rfl, hI, Nat.le_refl _, hb⟩

end Go.Proofs.YtkglbccdiofnkaaGreatDoor
