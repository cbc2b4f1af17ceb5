/-
'agrees' of the laws, at arguments and a result that are no matrices: it is true, if the reference and the program say the same.
-/
import Derived.Test.YtkglbccdiofnkaaGreatDoorOut
import Derived.Deep.RegionHeld3
import Derived.Deep.RegionWith
namespace Go.Proofs.YtkglbccdiofnkaaGreatDoor
open Go.RowKit Go.Fl

/-- Single values are arguments. -/
theorem ARow.of_flat {w : World} {B : Nat} {v : Value} {vs : List FV} (h : Row w B 5 v (vs.map FV.list)) : ARow w B v (vs.map Arg.one) := by
  refine ⟨vs.map FV.list, h, by simp, fun i c a hc ha => ?_⟩
  rw [List.getElem?_map] at hc ha
  cases hx : vs[i]? with
  | none => rw [hx] at hc; cases hc
  | some x =>
    rw [hx] at hc ha
    injection hc with hc
    injection ha with ha
    subst hc
    subst ha
    rfl
theorem flats_one (vs : List FV) : flats (vs.map Arg.one) = vs := by
  unfold flats
  induction vs with
  | nil => rfl
  | cons x xs ih => rw [List.map_cons, List.flatMap_cons, ih]; rfl

theorem table_any (A : Option Addr) (n c : Nat) (w : World) :
    Calls Tryz.prog 25 #[.slice A n c] w fun e w' => e = .returned (.agg #[.int .i64 5, .int .i64 0, .int .i64 0, .string ⟨#[]⟩, .slice A n c]) ∧ Below w.heap.size w w' := by
  go_enter Tryz.func25, Tryz.ntmps25
  go_wp2
  refine bodyPost_ret (v := .agg #[.int .i64 5, .int .i64 0, .int .i64 0, .string ⟨#[]⟩, .slice A n c]) (by simp [results, Tryz.results25, go_sem]) rfl ⟨rfl, ?_⟩
  exact (Below.refl _ _).alloc (Nat.le_refl _) _

/-- 'doubtful' of one value. -/
theorem doubtful_one (x : FV) (w : World) (hk : x.kind ≠ 5) :
    Calls Tryz.prog 24 #[.agg #[.int .i64 x.kind, .int .i64 x.num, .int .i64 x.den, .string x.text, .slice none 0 0]] w fun e w' => e = .returned (.bool (anyUnsure [x])) ∧ Below w.heap.size w w' :=
  doubtful_any _ _ _ _ _ _ _ [x] w (by simp) fun W v _ hR => flat_flat [x] v W hR (by simpa using hk) (by simp)

/-- 'doubtful' of a matrix with one row of arguments. -/
theorem doubtful_args (al : List Arg) (A : Option Addr) (l c : Nat) (av : Value) (w : World) (hrv : Row w w.heap.size 1 (.slice A l c) [[av]]) (hr : ARow w w.heap.size av al) (hk : ∀ a ∈ al, a.fits) (hn : al.length ≤ 1000000) (hn2 : (flats al).length ≤ 1000000) :
    Calls Tryz.prog 24 #[.agg #[.int .i64 5, .int .i64 0, .int .i64 0, .string ⟨#[]⟩, .slice A l c]] w fun e w' => e = .returned (.bool (anyUnsure (flats al))) ∧ Below w.heap.size w w' :=
  doubtful_any _ _ _ _ _ _ _ (flats al) w hn2 fun W v hb hR => flat_wrap al v _ av W hR ((hrv.below hb).more hb.size) ((hr.below hb).more hb.size) hk hn hn2

/-- What the program must say, to agree. -/
def Says (r : FV) (w : World) (e : Ending) (w' : World) : Prop := ∃ y, Sx y r.six ∧ e = .returned (.agg #[.int .i64 r.kind, .float .f64 y, .string r.text, .slice none 0 0]) ∧ Below w.heap.size w w'

theorem keep5 {W w' : World} {g : Nat} {a b c d e : Value} (hb : Below W.heap.size W w') (hz : g < W.heap.size)
    (h0 : W.cell? ⟨g, 0, none⟩ = some a) (h1 : W.cell? ⟨g, 1, none⟩ = some b) (h2 : W.cell? ⟨g, 2, none⟩ = some c) (h3 : W.cell? ⟨g, 3, none⟩ = some d) (h4 : W.cell? ⟨g, 4, none⟩ = some e) :
    w'.cell? ⟨g, 0, none⟩ = some a ∧ w'.cell? ⟨g, 1, none⟩ = some b ∧ w'.cell? ⟨g, 2, none⟩ = some c ∧ w'.cell? ⟨g, 3, none⟩ = some d ∧ w'.cell? ⟨g, 4, none⟩ = some e :=
  ⟨(hb.cell (p := ⟨g, 0, none⟩) hz).trans h0, (hb.cell (p := ⟨g, 1, none⟩) hz).trans h1, (hb.cell (p := ⟨g, 2, none⟩) hz).trans h2, (hb.cell (p := ⟨g, 3, none⟩) hz).trans h3, (hb.cell (p := ⟨g, 4, none⟩) hz).trans h4⟩

theorem keep5c {W w' : World} {g : Nat} {a b c d e : Value} (hb : Below W.heap.size W w') (hz : g < W.heap.size)
    (h : W.cell? ⟨g, 0, none⟩ = some a ∧ W.cell? ⟨g, 1, none⟩ = some b ∧ W.cell? ⟨g, 2, none⟩ = some c ∧ W.cell? ⟨g, 3, none⟩ = some d ∧ W.cell? ⟨g, 4, none⟩ = some e) :
    w'.cell? ⟨g, 0, none⟩ = some a ∧ w'.cell? ⟨g, 1, none⟩ = some b ∧ w'.cell? ⟨g, 2, none⟩ = some c ∧ w'.cell? ⟨g, 3, none⟩ = some d ∧ w'.cell? ⟨g, 4, none⟩ = some e :=
  keep5 hb hz h.1 h.2.1 h.2.2.1 h.2.2.2.1 h.2.2.2.2

set_option maxRecDepth 100000 in
set_option maxHeartbeats 2000000 in
theorem agrees_flat (F : Nat) (name : ByteArray) (vs : List FV) (r : FV) (v : Value) (w : World) (hr : Row w w.heap.size 5 v (vs.map FV.list)) (hok : ∀ x ∈ vs, x.ok) (hn : vs.length ≤ 1000000) (hrok : r.ok)
    (hC : ∀ W, Below w.heap.size w W → Calls Tryz.prog 23 #[.string name, v] W fun e w' => e = .returned (.agg #[.int .i64 r.kind, .int .i64 r.num, .int .i64 r.den, .string r.text, .slice none 0 0]) ∧ Below W.heap.size W w')
    (hE : ∀ (a : Value) (W : World), Sem.run Tryz.prog (callFunc F #[a]) W = .ok (.enter F #[a]) W)
    (hF : anyUnsure vs = false → r.kind ≠ 6 → ∀ W v', Row W W.heap.size 4 v' (vs.map FV.ilist) → Calls Tryz.prog F #[v'] W (Says r W)) :
    Calls Tryz.prog 10 #[.func (.func F) #[] #[], .string name, v] w fun e w' => e = .returned (.bool true) ∧ Below w.heap.size w w' := by
  obtain ⟨A, c, rfl⟩ : ∃ A c, v = .slice A vs.length c := by
    obtain ⟨A, c, h, _⟩ := hr
    exact ⟨A, c, by rw [List.length_map] at h; exact h⟩
  have HC := Lib.hid hC
  have HF := Lib.hid hF
  have HRr := Lib.hid hr
  have HOK := Lib.hid hok
  have hu26 := Tryz.underlying31
  clear hC hF hr hok
  have hun : flats (vs.map Arg.one) = vs := flats_one vs
  have HFit : Hid (∀ a ∈ vs.map Arg.one, a.fits) := by
    intro a ha
    obtain ⟨x, hx, rfl⟩ := List.mem_map.1 ha
    exact (HOK.out x hx).notMatrix
  have HLen : Hid ((vs.map Arg.one).length ≤ 1000000) := by rw [Hid, List.length_map]; exact hn
  have HLen2 : Hid ((flats (vs.map Arg.one)).length ≤ 1000000) := by rw [Hid, hun]; exact hn
  cases hU : anyUnsure vs with
  | true =>
    have HU := Lib.hid hU
    clear hU
    go_enter Tryz.func10, Tryz.ntmps10
    go_wp2_with (first
      | (go_at_call 23; refine (HC.out _ (Below.refl _ _)).mono ?_; rintro e w1 ⟨rfl, hb1⟩)
      | (go_at_call 25; refine (table_any _ _ _ _).mono ?_; rintro e w2 ⟨rfl, hb2⟩))
    have hb02 : Below w.heap.size w w2 := hb1.trans ((below_two hb2).mono hb1.size)
    have hRW : Row w2 w2.heap.size 5 (.slice A vs.length c) (vs.map FV.list) := (HRr.out.below hb02).more hb02.size
    have hL : Row w2 w2.heap.size 1 (.slice (some ⟨w1.heap.size + 1, 0, none⟩) 1 1) [[.slice A vs.length c]] := ((Row.lit1 _ _ [Value.slice A vs.length c] _ (by simp)).below hb2).more hb2.size
    refine (doubtful_args (vs.map Arg.one) _ _ _ (.slice A vs.length c) _ hL (ARow.of_flat hRW) HFit.out HLen.out HLen2.out).mono ?_
    rintro e w3 ⟨rfl, hb3⟩
    rw [hun, HU.out]
    go_wp2
    go_ret
    exact ⟨rfl, hb02.trans (hb3.mono hb02.size)⟩
  | false =>
    have HU := Lib.hid hU
    clear hU
    by_cases h6 : r.kind = 6
    · have hU2 : Hid (anyUnsure [r] = true) := by simp [Hid, anyUnsure, h6]
      clear h6
      go_enter Tryz.func10, Tryz.ntmps10
      go_wp2_with (first
        | (go_at_call 23; refine (HC.out _ (Below.refl _ _)).mono ?_; rintro e w1 ⟨rfl, hb1⟩)
        | (go_at_call 25; refine (table_any _ _ _ _).mono ?_; rintro e w2 ⟨rfl, hb2⟩))
      have hb02 : Below w.heap.size w w2 := hb1.trans ((below_two hb2).mono hb1.size)
      have hRW : Row w2 w2.heap.size 5 (.slice A vs.length c) (vs.map FV.list) := (HRr.out.below hb02).more hb02.size
      have hL : Row w2 w2.heap.size 1 (.slice (some ⟨w1.heap.size + 1, 0, none⟩) 1 1) [[.slice A vs.length c]] := ((Row.lit1 _ _ [Value.slice A vs.length c] _ (by simp)).below hb2).more hb2.size
      refine (doubtful_args (vs.map Arg.one) _ _ _ (.slice A vs.length c) _ hL (ARow.of_flat hRW) HFit.out HLen.out HLen2.out).mono ?_
      rintro e w3 ⟨rfl, hb3⟩
      rw [hun, HU.out]
      obtain ⟨cw, fw, zw, kw⟩ := box_cells (box_cells (heap_new2a _ _ _) hb2).2.2.2 hb3
      go_wp2_with (go_at_call 24; refine (doubtful_one r _ hrok.notMatrix).mono ?_; rintro e w4 ⟨rfl, hb4⟩; rw [hU2.out])
      go_ret
      exact ⟨rfl, hb02.trans ((hb3.mono hb02.size).trans (hb4.mono (Nat.le_trans hb02.size hb3.size)))⟩
    · have hU2 : Hid (anyUnsure [r] = false) := by simp [Hid, anyUnsure, h6]
      have H6 := Lib.hid h6
      clear h6
      go_enter Tryz.func10, Tryz.ntmps10
      go_wp2_with (first
        | (go_at_call 23; refine (HC.out _ (Below.refl _ _)).mono ?_; rintro e w1 ⟨rfl, hb1⟩)
        | (go_at_call 25; refine (table_any _ _ _ _).mono ?_; rintro e w2 ⟨rfl, hb2⟩))
      have hb02 : Below w.heap.size w w2 := hb1.trans ((below_two hb2).mono hb1.size)
      have hRW : Row w2 w2.heap.size 5 (.slice A vs.length c) (vs.map FV.list) := (HRr.out.below hb02).more hb02.size
      have hL : Row w2 w2.heap.size 1 (.slice (some ⟨w1.heap.size + 1, 0, none⟩) 1 1) [[.slice A vs.length c]] := ((Row.lit1 _ _ [Value.slice A vs.length c] _ (by simp)).below hb2).more hb2.size
      refine (doubtful_args (vs.map Arg.one) _ _ _ (.slice A vs.length c) _ hL (ARow.of_flat hRW) HFit.out HLen.out HLen2.out).mono ?_
      rintro e w3 ⟨rfl, hb3⟩
      rw [hun, HU.out]
      obtain ⟨cw, fw, zw, kw⟩ := box_cells (box_cells (heap_new2a _ _ _) hb2).2.2.2 hb3
      go_wp2_with (go_at_call 24; refine (doubtful_one r _ hrok.notMatrix).mono ?_; rintro e w4 ⟨rfl, hb4⟩; rw [hU2.out]; obtain ⟨cv, fv, zv, kv⟩ := box_cells kw hb4; clear cw fw)
      have c0 := cv 0
      have c1 := cv 1
      have c2 := cv 2
      have c3 := cv 3
      have c4 := cv 4
      have hb04 : Below w.heap.size w w4 := hb02.trans ((hb3.mono hb02.size).trans (hb4.mono (Nat.le_trans hb02.size hb3.size)))
      have hRW4 : Row w4 w4.heap.size 5 (.slice A vs.length c) (vs.map FV.list) := (HRr.out.below hb04).more hb04.size
      simp at c0 c1 c2 c3 c4
      clear cv fv hb1 hb2 hb3 hb4 hRW hL
      go_region_held3 (fun w' => w'.cell? ⟨w1.heap.size, 0, none⟩ = some (.int .i64 r.kind) ∧ w'.cell? ⟨w1.heap.size, 1, none⟩ = some (.int .i64 r.num) ∧ w'.cell? ⟨w1.heap.size, 2, none⟩ = some (.int .i64 r.den) ∧ w'.cell? ⟨w1.heap.size, 3, none⟩ = some (.string r.text) ∧ w'.cell? ⟨w1.heap.size, 4, none⟩ = some (.slice none 0 0))
        (first | go_keep | exact keep5 hb5 zv c0 c1 c2 c3 c4 | exact keep5c hb6 (Nat.lt_of_lt_of_le zv hb5.size) (by assumption) | exact keep5c hb7 (Nat.lt_of_lt_of_le zv (Nat.le_trans hb5.size hb6.size)) (by assumption))
        (first
          | (go_at_call 27; refine (all_flat vs _ _ ?_ HOK.out hn).mono ?_; exact hRW4; rintro e w5 ⟨v5, rfl, hR5, hb5⟩)
          | (go_at_call 26; refine (same_one r _ _ hrok ?_).mono ?_; exact hy; rintro e w7 ⟨rfl, hb7⟩)
          | (refine (HF.out HU.out H6.out _ _ ?_).mono ?_; exact hR5; rintro e w6 ⟨y, hy, rfl, hb6⟩))
      go_wp2
      go_ret
      exact ⟨rfl, hb04.drew.trans ((hb5.mono hb04.size).trans ((hb6.mono (Nat.le_trans hb04.size hb5.size)).trans (hb7.mono (Nat.le_trans hb04.size (Nat.le_trans hb5.size hb6.size)))))⟩

end Go.Proofs.YtkglbccdiofnkaaGreatDoor
