/-
The package's CHAR.
-/
import Derived.Test.YtededpnjijfieaaGreatDoorIsodd
import Derived.Test.YtededpnjijfieaaGreatDoorCallChar
import Derived.Laws.Runes
namespace Go.Proofs.YtededpnjijfieaaGreatDoor
open Go.RowKit Go.Fl

theorem encode_small (n : Int) (h1 : 32 ≤ n) (h2 : n ≤ 126) : Utf8.encode n = ⟨#[UInt8.ofNat n.toNat]⟩ := by
  have hv : Utf8.valid n = true := by simp [Utf8.valid]; omega
  have hl : n.toNat < 128 := by omega
  unfold Utf8.encode
  simp [hv, hl]

set_option maxRecDepth 100000 in
set_option maxHeartbeats 1000000 in
theorem CHAR_text (n : Int) (l : Nat) (es : List (Nat × Value)) (f : Option Addr) (w : World) (h1 : 32 ≤ n) (h2 : n ≤ 126) (hI : IList w l [⟨1, n, 1, ⟨#[]⟩⟩] es) :
    Calls Tryz.prog 48 #[.pointer f, .pointer (some ⟨l, 0, none⟩)] w
      fun e w' => e = .returned (.agg #[.string ⟨#[]⟩, .float .f64 0, .string ⟨#[UInt8.ofNat n.toNat]⟩, .slice none 0 0, .slice none 0 0, .bool false, .string ⟨#[]⟩, .int .u8 2, .pointer none, .pointer none]) ∧ Below w.heap.size w w' := by
  have hu80 := Tryz.underlying65
  have hta := assertArg
  obtain ⟨e, g, hes, hg, hnx, hp, hcell⟩ := hI.one
  obtain ⟨y, hy, rfl⟩ := hg.1 rfl
  have hy' : Sx y (16 * n) := by
    have e : (⟨1, n, 1, ⟨#[]⟩⟩ : FV).six = 16 * n := by unfold FV.six; simp; omega
    rwa [e] at hy
  obtain ⟨ce, fe, ze⟩ := row_facts hcell
  have HR := Lib.hid hI.ring
  have HN := Lib.hid hnx
  have HY := Lib.hid hy'
  have hlen : es.length = 1 := hI.len
  have HLen := Lib.hid hlen
  have HT : Hid ((16 * n).tdiv 16 = n) := by rw [Hid]; exact Int.mul_tdiv_cancel_left _ (by omega)
  have hen := encode_small n h1 h2
  clear hI hg hnx hp hcell hes hy hy' hlen
  go_enter Tryz.func48, Tryz.ntmps48
  go_wp2_with (first
    | (go_at_call 63; refine (len_any _ (HR.out.alloc _)).mono ?_; rintro e w1 ⟨rfl, rfl⟩; rw [HLen.out])
    | (go_at_call 65; refine (front_some _ (HR.out.alloc _) (by rw [HLen.out]; omega)).mono ?_; rintro e w1 ⟨rfl, rfl⟩; rw [HN.out])
    | (go_at_call 66; refine (toNumber_num _ _ _ _ _ _ HY.out).mono ?_; rintro e w1 ⟨z, hz, rfl, hb1⟩; have hcv := conv_sx hz (by omega) (by omega); rw [HT.out] at hcv; obtain ⟨ca, fa, za, ka⟩ := box_cells (heap_new1 _ _) hb1; have pb1 := below_one hb1; clear hz)
    | (go_at_call 71; refine (newStr_any _ _).mono ?_; rintro e w2 ⟨rfl, hb2⟩; obtain ⟨cb, fb, zb, kb⟩ := box_later ka hb2; have pb2 := below_box pb1 pb1.size hb2; clear ca fa))
  refine bodyPost_ret (v := .agg #[.string ⟨#[]⟩, .float .f64 0, .string ⟨#[UInt8.ofNat n.toNat]⟩, .slice none 0 0, .slice none 0 0, .bool false, .string ⟨#[]⟩, .int .u8 2, .pointer none, .pointer none]) (by simp [results, Tryz.results48, go_sem, cb]) rfl ⟨rfl, ?_⟩
  clear cb fb
  (repeat refine below_set0 ?_ _ _)
  exact pb2

set_option maxRecDepth 100000 in
set_option maxHeartbeats 1000000 in
theorem CHAR_neg (n : Int) (l : Nat) (es : List (Nat × Value)) (f : Option Addr) (w : World) (h1 : n < 0) (h2 : -99999999999 ≤ n) (hI : IList w l [⟨1, n, 1, ⟨#[]⟩⟩] es) :
    Calls Tryz.prog 48 #[.pointer f, .pointer (some ⟨l, 0, none⟩)] w
      fun e w' => e = .returned (.agg #[.string ⟨#[]⟩, .float .f64 0, .string eVALUE, .slice none 0 0, .slice none 0 0, .bool false, .string eVALUE, .int .u8 5, .pointer none, .pointer none]) ∧ Below w.heap.size w w' := by
  have hu80 := Tryz.underlying65
  have hta := assertArg
  obtain ⟨e, g, hes, hg, hnx, hp, hcell⟩ := hI.one
  obtain ⟨y, hy, rfl⟩ := hg.1 rfl
  have hy' : Sx y (16 * n) := by
    have e : (⟨1, n, 1, ⟨#[]⟩⟩ : FV).six = 16 * n := by unfold FV.six; simp; omega
    rwa [e] at hy
  obtain ⟨ce, fe, ze⟩ := row_facts hcell
  have HR := Lib.hid hI.ring
  have HN := Lib.hid hnx
  have HY := Lib.hid hy'
  have hlen : es.length = 1 := hI.len
  have HLen := Lib.hid hlen
  have HT : Hid ((16 * n).tdiv 16 = n) := by rw [Hid]; exact Int.mul_tdiv_cancel_left _ (by omega)
  clear hI hg hnx hp hcell hes hy hy' hlen
  go_enter Tryz.func48, Tryz.ntmps48
  go_wp2_with (first
    | (go_at_call 63; refine (len_any _ (HR.out.alloc _)).mono ?_; rintro e w1 ⟨rfl, rfl⟩; rw [HLen.out])
    | (go_at_call 65; refine (front_some _ (HR.out.alloc _) (by rw [HLen.out]; omega)).mono ?_; rintro e w1 ⟨rfl, rfl⟩; rw [HN.out])
    | (go_at_call 66; refine (toNumber_num _ _ _ _ _ _ HY.out).mono ?_; rintro e w1 ⟨z, hz, rfl, hb1⟩; have hcv := conv_sx hz (by omega) (by omega); rw [HT.out] at hcv; obtain ⟨ca, fa, za, ka⟩ := box_cells (heap_new1 _ _) hb1; have pb1 := below_one hb1; clear hz)
    | (go_at_call 64; refine (newErr_any _ _ _).mono ?_; rintro e w2 ⟨rfl, hb2⟩; obtain ⟨cb, fb, zb, kb⟩ := box_later ka hb2; have pb2 := below_box pb1 pb1.size hb2; clear ca fa))
  refine bodyPost_ret (v := .agg #[.string ⟨#[]⟩, .float .f64 0, .string eVALUE, .slice none 0 0, .slice none 0 0, .bool false, .string eVALUE, .int .u8 5, .pointer none, .pointer none]) (by simp [results, Tryz.results48, go_sem, cb, eVALUE]) rfl ⟨rfl, ?_⟩
  clear cb fb
  (repeat refine below_set0 ?_ _ _)
  exact pb2

end Go.Proofs.YtededpnjijfieaaGreatDoor
