/-
The package's INT says what the reference says.
-/
import Derived.Test.YtededpnjijfieaaGreatDoorInt
import Derived.Test.YtededpnjijfieaaGreatDoorDoor
import Derived.Test.YtededpnjijfieaaGreatDoorCallInt
namespace Go.Proofs.YtededpnjijfieaaGreatDoor
open Go.RowKit Go.Fl

set_option maxRecDepth 100000 in
set_option maxHeartbeats 1000000 in
theorem INT_fn (x : FV) (l : Nat) (es : List (Nat × Value)) (f : Option Addr) (w : World) (hx : x.ok) (h1 : x.kind = 1) (hI : IList w l [x] es) :
    Calls Tryz.prog 53 #[.pointer f, .pointer (some ⟨l, 0, none⟩)] w
      fun e w' => (∃ z3, Sx z3 (16 * (x.six / 16)) ∧ e = .returned (.agg #[.string ⟨#[]⟩, .float .f64 z3, .string ⟨#[]⟩, .slice none 0 0, .slice none 0 0, .bool false, .string ⟨#[]⟩, .int .u8 1, .pointer none, .pointer none])) ∧ Below w.heap.size w w' := by
  have hu80 := Tryz.underlying65
  have hta := assertArg
  obtain ⟨h3, h4⟩ := six_bound x hx
  have h5 : x.six ≤ 16 * 99999999999 ∧ -(16 * 99999999999) ≤ x.six := by
    obtain ⟨c1, c2, c3⟩ := hx.number h1
    unfold FV.six
    rw [if_pos h1]
    rcases c3 with h | h | h | h | h <;> rw [h] <;> simp <;> omega
  have hti : 16 * x.six.tdiv 16 ≤ 16 * 99999999999 ∧ -(16 * 99999999999) ≤ 16 * x.six.tdiv 16 := by rw [tdiv_of]; split <;> omega
  obtain ⟨e, g, hes, hg, hnx, hp, hcell⟩ := hI.one
  obtain ⟨y, hy, rfl⟩ := hg.1 h1
  obtain ⟨ce, fe, ze⟩ := row_facts hcell
  have HR := Lib.hid hI.ring
  have HN := Lib.hid hnx
  have HY := Lib.hid hy
  have hlen : es.length = 1 := hI.len
  have HLen := Lib.hid hlen
  clear hI hg hnx hp hcell hes hy hlen h1 hx
  by_cases hm : x.six.tmod 16 < 0
  · skip
    go_enter Tryz.func53, Tryz.ntmps53
    go_wp2_with (first
      | (go_at_call 63; refine (len_any _ (HR.out.alloc _)).mono ?_; rintro e w1 ⟨rfl, rfl⟩; rw [HLen.out])
      | (go_at_call 65; refine (front_some _ (HR.out.alloc _) (by rw [HLen.out]; omega)).mono ?_; rintro e w1 ⟨rfl, rfl⟩; rw [HN.out])
      | (go_at_call 66; refine (toNumber_num _ _ _ _ _ _ HY.out).mono ?_; rintro e w1 ⟨z, hz, rfl, hb1⟩; obtain ⟨ca, fa, za, ka⟩ := box_cells (heap_new1 _ _) hb1; have pb1 := below_one hb1; have HZ := Lib.hid hz; clear hz)
      | (go_at_call 77; refine (modf_any _ _ _ HZ.out h3 h4).mono ?_; rintro e w2 ⟨⟨a2, b2, ha2, hb2', rfl⟩, hb2⟩; have hlt : (FloatKind.f64.format.order b2 0 == some .lt) = true := (Sx.lt_ hb2' Sx.zero).trans (by simp; omega); obtain ⟨d, hd, hsd⟩ := Sx.sub ha2 Sx.one (by omega) (by omega); have hq : ∀ w, (binOp .sub 41 (.float .f64 a2) (.float .f64 4607182418800017408)).run Tryz.prog w = .ok (.float .f64 d) w := (fun w => run_float_arith w .sub _ .f64 _ _ _ hd); have HS : Hid (Sx d (16 * (x.six / 16))) := (by rw [Hid]; have e : 16 * x.six.tdiv 16 - 16 = 16 * (x.six / 16) := (by rw [tdiv_of]; rw [tmod_of] at hm; split <;> omega); rwa [e] at hsd); clear hsd hd; obtain ⟨c2, f2, z2, k2⟩ := box_later ka hb2; have pb2 := below_box pb1 pb1.size hb2; clear ca fa hb2' ha2)
      | (go_at_call 72; refine (newNum_any _ _ _ HS.out).mono ?_; rintro e w3 ⟨z3, hz3, rfl, hb3⟩; obtain ⟨cb, fb, zc, kc⟩ := box_cells k2 hb3; have pb3 := below_next pb2 pb2.size hb3; have HZ3 := Lib.hid hz3; clear hz3 c2 f2))
    refine bodyPost_ret (v := .agg #[.string ⟨#[]⟩, .float .f64 z3, .string ⟨#[]⟩, .slice none 0 0, .slice none 0 0, .bool false, .string ⟨#[]⟩, .int .u8 1, .pointer none, .pointer none]) (by simp [results, Tryz.results53, go_sem, cb]) rfl ⟨⟨z3, HZ3.out, rfl⟩, ?_⟩
    clear cb fb
    (repeat refine below_set0 ?_ _ _)
    exact pb3
  · skip
    go_enter Tryz.func53, Tryz.ntmps53
    go_wp2_with (first
      | (go_at_call 63; refine (len_any _ (HR.out.alloc _)).mono ?_; rintro e w1 ⟨rfl, rfl⟩; rw [HLen.out])
      | (go_at_call 65; refine (front_some _ (HR.out.alloc _) (by rw [HLen.out]; omega)).mono ?_; rintro e w1 ⟨rfl, rfl⟩; rw [HN.out])
      | (go_at_call 66; refine (toNumber_num _ _ _ _ _ _ HY.out).mono ?_; rintro e w1 ⟨z, hz, rfl, hb1⟩; obtain ⟨ca, fa, za, ka⟩ := box_cells (heap_new1 _ _) hb1; have pb1 := below_one hb1; have HZ := Lib.hid hz; clear hz)
      | (go_at_call 77; refine (modf_any _ _ _ HZ.out h3 h4).mono ?_; rintro e w2 ⟨⟨a2, b2, ha2, hb2', rfl⟩, hb2⟩; have hlt : (FloatKind.f64.format.order b2 0 == some .lt) = false := (Sx.lt_ hb2' Sx.zero).trans (by simp; omega); have HS : Hid (Sx a2 (16 * (x.six / 16))) := (by rw [Hid]; have e : x.six.tdiv 16 = x.six / 16 := (by rw [tdiv_of]; rw [tmod_of] at hm; split <;> omega); rwa [e] at ha2); obtain ⟨c2, f2, z2, k2⟩ := box_later ka hb2; have pb2 := below_box pb1 pb1.size hb2; clear ca fa hb2' ha2)
      | (go_at_call 72; refine (newNum_any _ _ _ HS.out).mono ?_; rintro e w3 ⟨z3, hz3, rfl, hb3⟩; obtain ⟨cb, fb, zc, kc⟩ := box_cells k2 hb3; have pb3 := below_next pb2 pb2.size hb3; have HZ3 := Lib.hid hz3; clear hz3 c2 f2))
    refine bodyPost_ret (v := .agg #[.string ⟨#[]⟩, .float .f64 z3, .string ⟨#[]⟩, .slice none 0 0, .slice none 0 0, .bool false, .string ⟨#[]⟩, .int .u8 1, .pointer none, .pointer none]) (by simp [results, Tryz.results53, go_sem, cb]) rfl ⟨⟨z3, HZ3.out, rfl⟩, ?_⟩
    clear cb fb
    (repeat refine below_set0 ?_ _ _)
    exact pb3

theorem six_div (x : FV) (hx : x.ok) (h1 : x.kind = 1) : x.six / 16 = x.num / x.den := by
  obtain ⟨_, _, c3⟩ := hx.number h1
  unfold FV.six
  rw [if_pos h1]
  rcases c3 with h | h | h | h | h <;> rw [h] <;> simp <;> omega

end Go.Proofs.YtededpnjijfieaaGreatDoor
