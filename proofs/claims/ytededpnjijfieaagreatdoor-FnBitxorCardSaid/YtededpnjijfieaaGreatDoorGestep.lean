/-
The package's GESTEP.
-/
import Derived.Test.YtededpnjijfieaaGreatDoorIsodd
namespace Go.Proofs.YtededpnjijfieaaGreatDoor
open Go.RowKit Go.Fl

/-- A list of two values: its elements' cells. -/
theorem IList.two {w : World} {l : Nat} {x x' : FV} {es : List (Nat × Value)} (h : IList w l [x, x'] es) :
    ∃ e g e' g', es.length = 2 ∧ Inner x g ∧ Inner x' g' ∧ nx l es 0 = e ∧ pv l es es.length = e' ∧
      w.heap[e]? = some (.cells #[.pointer (some ⟨e', 0, none⟩), .pointer (some ⟨l, 0, none⟩), .pointer (some ⟨l, 0, none⟩), .iface 65 (.agg #[.string ⟨#[]⟩, .float .f64 g.num, .string g.str, .slice none 0 0, .slice none 0 0, .bool g.bool, .string g.err, .int .u8 g.type, .pointer none, .pointer none])] 83) ∧
      w.heap[e']? = some (.cells #[.pointer (some ⟨l, 0, none⟩), .pointer (some ⟨e, 0, none⟩), .pointer (some ⟨l, 0, none⟩), .iface 65 (.agg #[.string ⟨#[]⟩, .float .f64 g'.num, .string g'.str, .slice none 0 0, .slice none 0 0, .bool g'.bool, .string g'.err, .int .u8 g'.type, .pointer none, .pointer none])] 83) := by
  have hl := h.len
  match es, hl with
  | [p, p'], _ =>
    obtain ⟨g, hg, hp⟩ := h.vals 0 x p rfl rfl
    obtain ⟨g', hg', hp'⟩ := h.vals 1 x' p' rfl rfl
    obtain ⟨e, v⟩ := p
    obtain ⟨e', v'⟩ := p'
    subst hp
    subst hp'
    exact ⟨e, g, e', g', rfl, hg, hg', rfl, rfl, h.ring.elem 0 e _ rfl, h.ring.elem 1 e' _ rfl⟩

set_option maxRecDepth 100000 in
set_option maxHeartbeats 2000000 in
theorem GESTEP_fn (x x' : FV) (l : Nat) (es : List (Nat × Value)) (f : Option Addr) (w : World) (h1 : x.kind = 1) (h1' : x'.kind = 1) (hI : IList w l [x, x'] es) :
    Calls Tryz.prog 50 #[.pointer f, .pointer (some ⟨l, 0, none⟩)] w
      fun e w' => (∃ y, Sx y (if x'.six ≤ x.six then 16 else 0) ∧ e = .returned (.agg #[.string ⟨#[]⟩, .float .f64 y, .string ⟨#[]⟩, .slice none 0 0, .slice none 0 0, .bool false, .string ⟨#[]⟩, .int .u8 1, .pointer none, .pointer none])) ∧ Below w.heap.size w w' := by
  have hu80 := Tryz.underlying65
  have hta := assertArg
  obtain ⟨e, g, e', g', hlen, hg, hg', hnx, hpv, hcell, hcell'⟩ := hI.two
  obtain ⟨y, hy, rfl⟩ := hg.1 h1
  obtain ⟨y', hy', rfl⟩ := hg'.1 h1'
  have KC := Lib.hid hcell
  have KC' := Lib.hid hcell'
  obtain ⟨ce, fe, ze⟩ := row_facts hcell
  obtain ⟨ce', fe', ze'⟩ := row_facts hcell'
  have HR := Lib.hid hI.ring
  have HN := Lib.hid hnx
  have HP := Lib.hid hpv
  have HY := Lib.hid hy
  have HY' := Lib.hid hy'
  have HLen := Lib.hid hlen
  have HT := Sx.tw (decide (x'.six ≤ x.six))
  have HT' : Hid (Sx (tw (decide (x'.six ≤ x.six))) (if x'.six ≤ x.six then 16 else 0)) := by
    rw [Hid]
    by_cases h : x'.six ≤ x.six
    · simpa [h] using HT
    · simpa [h] using HT
  have HI6 : Hid (∀ z z' : Nat, Sx z x.six → Sx z' x'.six → (FloatKind.f64.format.order z z' == some .gt || FloatKind.f64.format.order z z' == some .eq) = decide (x'.six ≤ x.six)) := by
    intro z z' hz hz'
    have e1 := Sx.gt_ hz hz'
    have e2 := Sx.eq_ hz hz'
    show (Ieee.double.order z z' == some .gt || Ieee.double.order z z' == some .eq) = _
    rw [e1, e2, ← Bool.decide_or]
    congr 1
    apply propext
    omega
  obtain ⟨b, hbb⟩ : ∃ b, b = decide (x'.six ≤ x.six) := ⟨_, rfl⟩
  rw [← hbb] at HT' HI6
  obtain ⟨q, hq⟩ : ∃ q : Int, q = if x'.six ≤ x.six then 16 else 0 := ⟨_, rfl⟩
  rw [← hq] at HT' ⊢
  have HR1 : Hid (∀ W, Below w.heap.size w W → Ring W l es) := fun W hW => hI.ring.below hW
  have CE : Hid (∀ W, Below w.heap.size w W → (∀ j, W.cell? ⟨e', j, none⟩ = (#[Value.pointer (some ⟨l, 0, none⟩), .pointer (some ⟨e, 0, none⟩), .pointer (some ⟨l, 0, none⟩), .iface 65 (.agg #[.string ⟨#[]⟩, .float .f64 y', .string ⟨#[]⟩, .slice none 0 0, .slice none 0 0, .bool false, .string ⟨#[]⟩, .int .u8 1, .pointer none, .pointer none])] : Array Value)[j]?) ∧ e' < W.heap.size) :=
    fun W hW => by
      have hz := heap_lt hcell'
      obtain ⟨k1, k2, k3⟩ := row_facts ((hW.block e' hz).trans hcell')
      exact ⟨k1, k3⟩
  have pb := Below.refl w.heap.size w
  clear hI hg hg' hnx hpv hcell hcell' hy hy' hlen h1 h1' HT hbb hq KC KC' ce' fe' ze'
  go_enter Tryz.func50, Tryz.ntmps50
  go_wp2_with (first
    | (go_at_call 63; refine (len_any _ (HR1.out _ (by first | exact pb.alloc pb.size _ | exact pb2.alloc pb2.size _))).mono ?_; rintro e w1 ⟨rfl, rfl⟩; rw [HLen.out])
    | (go_at_call 65; refine (front_some _ (HR1.out _ (pb.alloc pb.size _)) (by rw [HLen.out]; omega)).mono ?_; rintro e w1 ⟨rfl, rfl⟩; rw [HN.out])
    | (go_at_call 66; refine (toNumber_num y x.six _ _ _ _ HY.out).mono ?_; rintro e w1 ⟨z, hz, rfl, hb1⟩; obtain ⟨c1, f1, z1, k1⟩ := box_cells (heap_new1 _ _) hb1; have pb1 := below_one hb1; have HZ := Lib.hid hz; clear hz)
    | (go_at_call 72; refine (newNum_any _ _ _ Sx.zero).mono ?_; rintro e w2 ⟨z0, _, rfl, hb2⟩; obtain ⟨c2, f2, z2, k2⟩ := box_later k1 hb2; obtain ⟨d2, g2, y2, j2⟩ := box_cells (heap_new1 w1 _) hb2; have pb2 := below_box pb1 pb1.size hb2; clear c1 f1 ce fe ze))
  go_wp2_with (first
    | (go_at_call 74; refine (back_some _ (HR1.out _ (pb2.alloc pb2.size _)) (by rw [HLen.out]; omega)).mono ?_; rintro e w3 ⟨rfl, rfl⟩; rw [HP.out]; obtain ⟨ce', ze'⟩ := CE.out w2 pb2)
    | (go_at_call 66; refine (toNumber_num y' x'.six _ _ _ _ HY'.out).mono ?_; rintro e w3 ⟨z', hz', rfl, hb3⟩; obtain ⟨c3, f3, z3, k3⟩ := box_later k2 hb3; obtain ⟨d3, g3, y3, j3⟩ := box_later j2 hb3; obtain ⟨s3, t3, m3, n3⟩ := box_cells (heap_new1 w2 _) hb3; have pb3 := below_box pb2 pb2.size hb3; have hcmp := HI6.out z z' HZ.out hz'; have hne : w.heap.size ≠ w2.heap.size := (by omega); have hle : w.heap.size ≤ w2.heap.size := pb2.size; have d31 := d3 1; simp only [List.getElem?_toArray, List.getElem?_cons_succ, List.getElem?_cons_zero] at d31; clear hz' c2 f2 d2 g2 ce' c3 f3 d3 g3 ze'))
  go_wp2_with (first
    | (go_at_call 67; refine (newBool_any b _).mono ?_; rintro e w4 ⟨rfl, hb4⟩; have pb4 := below_next (B := w.heap.size) (w := w) (by (repeat refine Below.setCell ?_ hle _); exact pb3) (by have := pb3.size; simpa [World.setCell] using this) hb4; obtain ⟨c4, f4, z4, k4⟩ := box_cells (g := w.heap.size) (by simp only [heap_set_far hne]; exact k3) hb4; clear d31 s3 t3)
    | (go_at_call 66; refine (toNumber_num (tw b) _ _ _ _ _ HT'.out).mono ?_; rintro e w5 ⟨z5, hz5, rfl, hb5⟩; obtain ⟨c5, f5, z6, k5⟩ := box_cells k4 hb5; have pb5 := below_next pb4 pb4.size hb5; have HZ5 := Lib.hid hz5; clear hz5 c4 f4))
  refine bodyPost_ret (v := .agg #[.string ⟨#[]⟩, .float .f64 z5, .string ⟨#[]⟩, .slice none 0 0, .slice none 0 0, .bool false, .string ⟨#[]⟩, .int .u8 1, .pointer none, .pointer none]) (by simp [results, Tryz.results50, go_sem, c5]) rfl ⟨⟨z5, HZ5.out, rfl⟩, ?_⟩
  clear c5 f5
  (repeat refine below_set0 ?_ _ _)
  exact pb5

end Go.Proofs.YtededpnjijfieaaGreatDoor
