/-
The package's XOR.
-/
import Derived.Test.YtededpnjijfieaaGreatDoorIsodd
namespace Go.Proofs.YtededpnjijfieaaGreatDoor
open Go.RowKit Go.Fl

/-- How many of these are true. -/
def trues (vs : List FV) : Nat := vs.countP fun x => decide (x.num ≠ 0)
theorem trues_take (vs : List FV) (k : Nat) (x : FV) (h : vs[k]? = some x) : trues (vs.take (k + 1)) = trues (vs.take k) + if x.num ≠ 0 then 1 else 0 := by
  unfold trues
  rw [List.take_add_one, h, List.countP_append]
  simp [List.countP_cons]
theorem trues_le (vs : List FV) (k : Nat) : trues (vs.take k) ≤ k := by
  unfold trues
  have := List.countP_le_length (p := fun x : FV => decide (x.num ≠ 0)) (l := vs.take k)
  rw [List.length_take] at this
  omega

theorem Inner.numOf {x : FV} {g : GA} (h : Inner x g) (hx : x.ok) (hk : x.kind = 1 ∨ x.kind = 3) : ∃ y s b e, g = ⟨y, s, b, e, 1⟩ ∧ Sx y x.six := by
  rcases hk with h1 | h3
  · obtain ⟨y, hy, rfl⟩ := h.1 h1
    exact ⟨y, _, _, _, rfl, hy⟩
  · have := h.2.2.1 h3
    refine ⟨_, _, _, _, this, ?_⟩
    have hs := Sx.tw (decide (x.num ≠ 0))
    have e : x.six = 16 * x.num := by unfold FV.six; rw [if_neg (by omega), if_pos h3]
    rw [e]
    rcases hx.logic h3 with h | h
    · rw [h] at hs ⊢; simpa using hs
    · rw [h] at hs ⊢; simpa using hs
theorem six_zero (x : FV) (hx : x.ok) (hk : x.kind = 1 ∨ x.kind = 3) : x.six = 0 ↔ x.num = 0 := by
  unfold FV.six
  rcases hk with h1 | h3
  · rw [if_pos h1]
    rcases (hx.number h1).2.2 with h | h | h | h | h <;> rw [h] <;> simp <;> omega
  · rw [if_neg (by omega), if_pos h3]
    omega

set_option maxRecDepth 100000 in
set_option maxHeartbeats 2000000 in
theorem calcXor_any (vs : List FV) (l : Nat) (es : List (Nat × Value)) (w : World) (hok : ∀ x ∈ vs, x.ok) (hk : ∀ x ∈ vs, x.kind = 1 ∨ x.kind = 3) (h0 : 0 < vs.length) (hn : vs.length ≤ 1000000) (hI : IList w l vs es) :
    Calls Tryz.prog 76 #[.pointer (some ⟨l, 0, none⟩)] w
      fun e w' => e = .returned (.agg #[.string ⟨#[]⟩, .float .f64 (tw (decide (trues vs % 2 = 1))), .string ⟨#[]⟩, .slice none 0 0, .slice none 0 0, .bool true, .string ⟨#[]⟩, .int .u8 1, .pointer none, .pointer none]) ∧ Below w.heap.size w w' := by
  have hu80 := Tryz.underlying65
  have hta := assertArg
  have hlen : es.length = vs.length := hI.len
  have HLen := Lib.hid hlen
  obtain ⟨b, hbb⟩ : ∃ b, b = decide (trues vs % 2 = 1) := ⟨_, rfl⟩
  rw [← hbb]
  have HBB := Lib.hid hbb
  clear hbb
  obtain ⟨w0, hw0⟩ : ∃ w0 : World, w0 = w.alloc (.cells #[.string ⟨#[]⟩, .float .f64 0, .string ⟨#[]⟩, .slice none 0 0, .slice none 0 0, .bool false, .string ⟨#[]⟩, .int .u8 0, .pointer none, .pointer none] 65) := ⟨_, rfl⟩
  have hb0 : Below w.heap.size w w0 := by rw [hw0]; exact (Below.refl _ _).alloc (Nat.le_refl _) _
  have k0 : w0.heap[w.heap.size]? = some (.cells #[.string ⟨#[]⟩, .float .f64 0, .string ⟨#[]⟩, .slice none 0 0, .slice none 0 0, .bool false, .string ⟨#[]⟩, .int .u8 0, .pointer none, .pointer none] 65) := by rw [hw0]; exact heap_new1 _ _
  have HW0 := Lib.hid hw0.symm
  have hI0 : IList w0 l vs es := ⟨hI.ring.below hb0, hI.len, hI.vals⟩
  have HI := Lib.hid hI0
  have HOK := Lib.hid hok
  have HK := Lib.hid hk
  have HF2 : Hid (some (⟨nx l es 0, 0, none⟩ : Addr) = nxp es 0) := by
    rw [Hid]; unfold nx nxp
    cases hh : es[0]? with
    | none => exfalso; have h1 := List.getElem?_eq_none_iff.1 hh; have h2 := HLen.out; omega
    | some p => rfl
  clear hI hI0 hok hk hlen hw0
  go_enter Tryz.func76, Tryz.ntmps76
  go_wp2_with (go_at_call 65; rw [HW0.out]; refine (front_some _ HI.out.ring (by rw [HLen.out]; omega)).mono ?_; rintro e w1 ⟨rfl, rfl⟩)
  go_loopg [3, 4, 5] vs.length (fun gn c o a wr => ∃ i : Nat, gn = vs.length - i ∧ i ≤ vs.length ∧ c = .int .i64 (trues (vs.take i) : Nat) ∧ o = .bool (decide (0 < i)) ∧ a = .pointer (nxp es i) ∧ Below w0.heap.size w0 wr)
  case atStart => exact ⟨0, rfl, Nat.zero_le _, rfl, rfl, by rw [← HF2.out], Below.refl _ _⟩
  case round =>
    obtain ⟨i, hgi, hi, rfl, rfl, rfl, hb⟩ := hrel
    have HG := Lib.hid hgi
    clear hgi
    have htl := trues_le vs i
    by_cases hlt : i < vs.length
    · obtain ⟨x, hxi⟩ : ∃ x, vs[i]? = some x := ⟨_, List.getElem?_eq_getElem hlt⟩
      obtain ⟨p, hpi⟩ : ∃ p, es[i]? = some p := ⟨_, List.getElem?_eq_getElem (by have := HLen.out; omega)⟩
      have hmem := List.mem_of_getElem? hxi
      obtain ⟨g, hg, hpv⟩ := HI.out.vals i x p hxi hpi
      obtain ⟨y, s, b, er, rfl, hy⟩ := hg.numOf (HOK.out x hmem) (HK.out x hmem)
      obtain ⟨e, v⟩ := p
      dsimp only at hpv
      subst hpv
      have hz := six_zero x (HOK.out x hmem) (HK.out x hmem)
      have hnp : nxp es i = some ⟨e, 0, none⟩ := by unfold nxp; rw [hpi]
      have hR := HI.out.ring.below hb
      have KR := Lib.hid hR
      have KP := Lib.hid hpi
      have KX := Lib.hid hxi
      have KH := Lib.hid hlt
      obtain ⟨ce, fe, ze⟩ := row_facts (hR.elem i e _ hpi)
      have HTT := Lib.hid (trues_take vs i x hxi)
      rw [hnp]
      clear hR hpi hxi hlt hnp hg hmem
      by_cases h0' : x.num = 0
      · have hc : (FloatKind.f64.format.order y 0 != some .eq) = false := (Sx.ne_ hy Sx.zero).trans (by simp [hz.2 h0'])
        have HT : Hid (trues (vs.take (i + 1)) = trues (vs.take i)) := by rw [Hid, HTT.out, if_neg (by simpa using h0')]; rfl
        clear hy hz h0'
        go_wp2_with (go_at_call 157; refine (next_any _ (KR.out.alloc _) i e _ KP.out).mono ?_; rintro e w1 ⟨rfl, rfl⟩)
        have hgi := HG.out
        have hlt := KH.out
        go_roundg (vs.length - (i + 1))
        case measure => omega
        case rel => exact ⟨i + 1, rfl, hlt, by rw [HT.out], by simp, rfl, hb.alloc hb.size _⟩
      · have hc : (FloatKind.f64.format.order y 0 != some .eq) = true := (Sx.ne_ hy Sx.zero).trans (by simpa using fun h => h0' (hz.1 h))
        have HT : Hid (trues (vs.take (i + 1)) = trues (vs.take i) + 1) := by rw [Hid, HTT.out, if_pos h0']
        clear hy hz h0'
        go_wp2_with (go_at_call 157; refine (next_any _ (KR.out.alloc _) i e _ KP.out).mono ?_; rintro e w1 ⟨rfl, rfl⟩)
        have hgi := HG.out
        have hlt := KH.out
        go_roundg (vs.length - (i + 1))
        case measure => omega
        case rel => exact ⟨i + 1, rfl, hlt, by rw [HT.out]; go_num, by simp, rfl, hb.alloc hb.size _⟩
    · obtain rfl : i = vs.length := by omega
      have hnp : nxp es vs.length = none := by
        unfold nxp
        rw [List.getElem?_eq_none (by have := HLen.out; omega)]
      rw [hnp, List.take_length]
      rw [List.take_length] at htl
      have hd : decide (0 < vs.length) = true := by simpa using h0
      rw [hd]
      clear hnp hd hlt
      have hp1 : ((trues vs : Int) % 2 != 0) = b := by
        rw [HBB.out]
        by_cases h : trues vs % 2 = 1
        · have h2 : (trues vs : Int) % 2 = 1 := by omega
          simp [h, h2]
        · have h2 : (trues vs : Int) % 2 = 0 := by omega
          simp [h, h2]
      have hp2 : ((trues vs : Int).tmod 2 != 0) = b := by rw [Int.tmod_eq_emod_of_nonneg (by omega)]; exact hp1
      obtain ⟨c0, f0, z0, k1⟩ := box_cells k0 hb
      go_wp2_with (go_at_call 67; refine (newBool_any b _).mono ?_; rintro e w2 ⟨rfl, hb2⟩; obtain ⟨c2, f2, z2, k2⟩ := box_cells k1 hb2; clear c0 f0)
      refine bodyPost_ret (v := .agg #[.string ⟨#[]⟩, .float .f64 (tw b), .string ⟨#[]⟩, .slice none 0 0, .slice none 0 0, .bool true, .string ⟨#[]⟩, .int .u8 1, .pointer none, .pointer none]) (by simp [results, Tryz.results76, go_sem, c2]) rfl ⟨rfl, ?_⟩
      have pb := hb0.trans ((hb.trans (hb2.mono hb.size)).mono hb0.size)
      clear c2 f2
      (repeat refine below_set0 ?_ _ _)
      exact pb

set_option maxRecDepth 100000 in
set_option maxHeartbeats 2000000 in
theorem XOR_fn (vs : List FV) (l : Nat) (es : List (Nat × Value)) (f : Option Addr) (w : World) (hok : ∀ x ∈ vs, x.ok) (hk : ∀ x ∈ vs, x.kind = 1 ∨ x.kind = 3) (h0 : 0 < vs.length) (hn : vs.length ≤ 1000000) (hI : IList w l vs es) :
    Calls Tryz.prog 52 #[.pointer f, .pointer (some ⟨l, 0, none⟩)] w
      fun e w' => e = .returned (.agg #[.string ⟨#[]⟩, .float .f64 (tw (decide (trues vs % 2 = 1))), .string ⟨#[]⟩, .slice none 0 0, .slice none 0 0, .bool true, .string ⟨#[]⟩, .int .u8 1, .pointer none, .pointer none]) ∧ Below w.heap.size w w' := by
  obtain ⟨b, hbb⟩ : ∃ b, b = decide (trues vs % 2 = 1) := ⟨_, rfl⟩
  have HC : Hid (∀ W, IList W l vs es → Calls Tryz.prog 76 #[.pointer (some ⟨l, 0, none⟩)] W fun e w' => e = .returned (.agg #[.string ⟨#[]⟩, .float .f64 (tw b), .string ⟨#[]⟩, .slice none 0 0, .slice none 0 0, .bool true, .string ⟨#[]⟩, .int .u8 1, .pointer none, .pointer none]) ∧ Below W.heap.size W w') := by
    rw [hbb]; exact fun W hW => calcXor_any vs l es W hok hk h0 hn hW
  rw [← hbb]
  clear hbb
  have HI : Hid (∀ W, Below w.heap.size w W → IList W l vs es) := fun W hW => ⟨hI.ring.below hW, hI.len, hI.vals⟩
  have hlen : es.length = vs.length := hI.len
  have HLen := Lib.hid hlen
  have hlt : ¬ ((vs.length : Int) < 1) := by omega
  clear hI hlen
  go_enter Tryz.func52, Tryz.ntmps52
  go_wp2_with (first
    | (go_at_call 63; refine (len_any _ (HI.out _ ((Below.refl _ _).alloc (Nat.le_refl _) _)).ring).mono ?_; rintro e w1 ⟨rfl, rfl⟩; rw [HLen.out])
    | (go_at_call 76; refine (HC.out _ (HI.out _ ((Below.refl _ _).alloc (Nat.le_refl _) _))).mono ?_; rintro e w2 ⟨rfl, hb2⟩; obtain ⟨c2, f2, z2, k2⟩ := box_cells (heap_new1 _ _) hb2))
  refine bodyPost_ret (v := .agg #[.string ⟨#[]⟩, .float .f64 (tw b), .string ⟨#[]⟩, .slice none 0 0, .slice none 0 0, .bool true, .string ⟨#[]⟩, .int .u8 1, .pointer none, .pointer none]) (by simp [results, Tryz.results52, go_sem, c2]) rfl ⟨rfl, ?_⟩
  have pb := below_one hb2
  clear c2 f2
  (repeat refine below_set0 ?_ _ _)
  exact pb

end Go.Proofs.YtededpnjijfieaaGreatDoor
