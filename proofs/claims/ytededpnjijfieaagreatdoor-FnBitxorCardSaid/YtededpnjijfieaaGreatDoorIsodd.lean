/-
The package's ISODD, through its door and the thin package.
-/
import Derived.Test.YtededpnjijfieaaGreatDoorOut
import Derived.Test.YtededpnjijfieaaGreatDoorOver
namespace Go.Proofs.YtededpnjijfieaaGreatDoor
open Go.RowKit Go.Fl

theorem Ring.alloc {w : World} {l : Nat} {es : List (Nat × Value)} (h : Ring w l es) (o : Obj) : Ring (w.alloc o) l es := h.below ((Below.refl _ _).alloc (Nat.le_refl _) _)

/-- A list of one value: its element's cells. -/
theorem IList.one {w : World} {l : Nat} {x : FV} {es : List (Nat × Value)} (h : IList w l [x] es) :
    ∃ e g, es = [(e, .iface 65 (.agg #[.string ⟨#[]⟩, .float .f64 g.num, .string g.str, .slice none 0 0, .slice none 0 0, .bool g.bool, .string g.err, .int .u8 g.type, .pointer none, .pointer none]))] ∧ Inner x g ∧ nx l es 0 = e ∧ pv l es es.length = e ∧
      w.heap[e]? = some (.cells #[.pointer (some ⟨l, 0, none⟩), .pointer (some ⟨l, 0, none⟩), .pointer (some ⟨l, 0, none⟩), .iface 65 (.agg #[.string ⟨#[]⟩, .float .f64 g.num, .string g.str, .slice none 0 0, .slice none 0 0, .bool g.bool, .string g.err, .int .u8 g.type, .pointer none, .pointer none])] 83) := by
  have hl := h.len
  match es, hl with
  | [p], _ =>
    obtain ⟨g, hg, hp⟩ := h.vals 0 x p rfl rfl
    obtain ⟨e, v⟩ := p
    subst hp
    exact ⟨e, g, rfl, hg, rfl, rfl, h.ring.elem 0 e _ rfl⟩

theorem conv_sx {y : Nat} {m : Int} (h : Sx y m) (h1 : m < 9007199254740992) (h2 : -9007199254740992 < m) (w : World) :
    (convert 41 3 (.float .f64 y)).run Tryz.prog w = .ok (.int .i64 (m.tdiv 16)) w := by
  refine run_convert_float_int w 41 3 .f64 .i64 y (m.tdiv 16) (by rw [Tryz.underlying41]; rfl) Tryz.underlying3 ?_
  have ht : (FloatKind.f64.decode y).toInt .zero = some (m.tdiv 16) := Sx.trunc h
  unfold floatToIntVal
  rw [ht]
  have hb : IntKind.min .i64 ≤ m.tdiv 16 ∧ m.tdiv 16 ≤ IntKind.max .i64 := by
    rw [tdiv_of]
    have e1 : IntKind.min .i64 = -9223372036854775808 := by decide
    have e2 : IntKind.max .i64 = 9223372036854775807 := by decide
    rw [e1, e2]
    split <;> constructor <;> omega
  simp only [hb, and_self, if_true]

theorem assertArg (v : Value) (w : World) : (Instr.typeAssert (.iface 65 v) 20 65 false).run Tryz.prog w = .ok v w := by kernel_rfl

theorem half_wrap (t : Int) (h1 : t ≤ 9007199254740992) (h2 : -9007199254740992 ≤ t) : wrap64 (t.tdiv 2 * 2) = t.tdiv 2 * 2 := by
  rw [tdiv_of]
  unfold wrap64
  split <;> omega
theorem neq_half (t : Int) (h1 : t ≤ 9007199254740992) (h2 : -9007199254740992 ≤ t) (h : t % 2 = 0) : (t != wrap64 (t.tdiv 2 * 2)) = false := by
  rw [half_wrap t h1 h2]
  have : t.tdiv 2 * 2 = t := by rw [tdiv2_even t h]; omega
  rw [this]; simp
theorem neq_half' (t : Int) (h1 : t ≤ 9007199254740992) (h2 : -9007199254740992 ≤ t) (h : t % 2 ≠ 0) : (t != wrap64 (t.tdiv 2 * 2)) = true := by
  rw [half_wrap t h1 h2]
  have : t.tdiv 2 * 2 ≠ t := by rw [tdiv_of]; split <;> omega
  simpa using fun e => this e.symm
theorem trunc16_bound (m : Int) (h1 : m < 9007199254740992) (h2 : -9007199254740992 < m) : m.tdiv 16 ≤ 9007199254740992 ∧ -9007199254740992 ≤ m.tdiv 16 := by
  rw [tdiv_of]
  split <;> constructor <;> omega

set_option maxRecDepth 100000 in
set_option maxHeartbeats 1000000 in
theorem isodd_fn (x : FV) (l : Nat) (es : List (Nat × Value)) (f : Option Addr) (w : World) (hx : x.ok) (h1 : x.kind = 1) (hI : IList w l [x] es) :
    Calls Tryz.prog 45 #[.pointer f, .pointer (some ⟨l, 0, none⟩)] w
      fun e w' => e = .returned (.agg #[.string ⟨#[]⟩, .float .f64 (tw (decide (x.six.tdiv 16 % 2 ≠ 0))), .string ⟨#[]⟩, .slice none 0 0, .slice none 0 0, .bool true, .string ⟨#[]⟩, .int .u8 1, .pointer none, .pointer none]) ∧ Below w.heap.size w w' := by
  have hu80 := Tryz.underlying65
  have hta := assertArg
  obtain ⟨e, g, hes, hg, hn, hp, hcell⟩ := hI.one
  obtain ⟨y, hy, rfl⟩ := hg.1 h1
  obtain ⟨ce, fe, ze⟩ := row_facts hcell
  have HR := Lib.hid hI.ring
  have HN := Lib.hid hn
  have HY := Lib.hid hy
  have hlen : es.length = 1 := hI.len
  have HLen := Lib.hid hlen
  have HB := Lib.hid (six_bound x hx)
  obtain ⟨t, ht⟩ : ∃ t, t = x.six.tdiv 16 := ⟨_, rfl⟩
  have HT := Lib.hid ht
  obtain ⟨t1, t2⟩ := trunc16_bound x.six (six_bound x hx).1 (six_bound x hx).2
  rw [← ht] at t1 t2 ⊢
  clear hI hg h1 hn hp hcell hes hy hlen hx ht
  by_cases h2 : t % 2 = 0
  · have hc := neq_half t t1 t2 h2
    have hd : Hid (decide (t % 2 ≠ 0) = false) := by simp [Hid, h2]
    rw [hd.out]
    clear h2
    go_enter Tryz.func45, Tryz.ntmps45
    go_wp2_with (first
      | (go_at_call 63; refine (len_any _ (HR.out.alloc _)).mono ?_; rintro e w1 ⟨rfl, rfl⟩; rw [HLen.out])
      | (go_at_call 65; refine (front_some _ (HR.out.alloc _) (by rw [HLen.out]; omega)).mono ?_; rintro e w1 ⟨rfl, rfl⟩; rw [HN.out])
      | (go_at_call 66; refine (toNumber_num _ _ _ _ _ _ HY.out).mono ?_; rintro e w1 ⟨z, hz, rfl, hb1⟩; have hcv := conv_sx hz HB.out.1 HB.out.2; rw [← HT.out] at hcv; obtain ⟨ca, fa, za, ka⟩ := box_cells (heap_new1 _ _) hb1; clear hz)
      | (go_at_call 67; refine (newBool_any _ _).mono ?_; rintro e w2 ⟨rfl, hb2⟩; obtain ⟨cb, fb, zb, kb⟩ := box_later ka hb2; clear ca fa))
    refine bodyPost_ret (v := .agg #[.string ⟨#[]⟩, .float .f64 (tw false), .string ⟨#[]⟩, .slice none 0 0, .slice none 0 0, .bool true, .string ⟨#[]⟩, .int .u8 1, .pointer none, .pointer none]) (by simp [results, Tryz.results45, go_sem, cb]) rfl ⟨rfl, ?_⟩
    have pb := (below_one hb1).trans ((below_one hb2).mono (by have := hb1.size; simp at this; omega))
    clear cb fb
    (repeat refine below_set0 ?_ _ _)
    exact pb
  · have hc := neq_half' t t1 t2 h2
    have hd : Hid (decide (t % 2 ≠ 0) = true) := by simp [Hid, h2]
    rw [hd.out]
    clear h2
    go_enter Tryz.func45, Tryz.ntmps45
    go_wp2_with (first
      | (go_at_call 63; refine (len_any _ (HR.out.alloc _)).mono ?_; rintro e w1 ⟨rfl, rfl⟩; rw [HLen.out])
      | (go_at_call 65; refine (front_some _ (HR.out.alloc _) (by rw [HLen.out]; omega)).mono ?_; rintro e w1 ⟨rfl, rfl⟩; rw [HN.out])
      | (go_at_call 66; refine (toNumber_num _ _ _ _ _ _ HY.out).mono ?_; rintro e w1 ⟨z, hz, rfl, hb1⟩; have hcv := conv_sx hz HB.out.1 HB.out.2; rw [← HT.out] at hcv; obtain ⟨ca, fa, za, ka⟩ := box_cells (heap_new1 _ _) hb1; clear hz)
      | (go_at_call 67; refine (newBool_any _ _).mono ?_; rintro e w2 ⟨rfl, hb2⟩; obtain ⟨cb, fb, zb, kb⟩ := box_later ka hb2; clear ca fa))
    refine bodyPost_ret (v := .agg #[.string ⟨#[]⟩, .float .f64 (tw true), .string ⟨#[]⟩, .slice none 0 0, .slice none 0 0, .bool true, .string ⟨#[]⟩, .int .u8 1, .pointer none, .pointer none]) (by simp [results, Tryz.results45, go_sem, cb]) rfl ⟨rfl, ?_⟩
    have pb := (below_one hb1).trans ((below_one hb2).mono (by have := hb1.size; simp at this; omega))
    clear cb fb
    (repeat refine below_set0 ?_ _ _)
    exact pb

end Go.Proofs.YtededpnjijfieaaGreatDoor
