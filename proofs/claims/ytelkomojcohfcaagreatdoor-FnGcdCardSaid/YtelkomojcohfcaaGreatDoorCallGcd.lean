/-
GCD of the reference.
-/
import Derived.Test.YtelkomojcohfcaaGreatDoorNoGcd
import Derived.Test.YtelkomojcohfcaaGreatDoorBtw
import Derived.Test.YtelkomojcohfcaaGreatDoorFits
import Derived.Test.YtelkomojcohfcaaGreatDoorWhole
import Derived.Test.YtelkomojcohfcaaGreatDoorGcdP
import Derived.Test.YtelkomojcohfcaaGreatDoorList
import Derived.Deep.LoopGhost
import Derived.StillTailTactics
namespace Go.Proofs.YtelkomojcohfcaaGreatDoor
open Go.RowKit

/-- Whole numbers up to 1000 may be members. -/
def gcdB (x : FV) : Bool := decide (x.kind = 1) && btw x 0 1000

set_option maxRecDepth 100000 in
set_option maxHeartbeats 1000000 in
theorem gcdMember (x : FV) (w : World) (hx : x.kind = 1 ∨ x = ⟨6, 0, 0, ⟨#[]⟩⟩) :
    Calls Tryz.prog 125 #[.agg #[.int .i64 x.kind, .int .i64 x.num, .int .i64 x.den, .string x.text, .slice none 0 0]] w fun e w' => e = .returned (.bool (gcdB x)) ∧ Below w.heap.size w w' := by
  have hu26 := Tryz.underlying30
  rcases hx with h | h
  · have e : gcdB x = btw x 0 1000 := by simp [gcdB, h]
    have HB : Hid (∀ W, Calls Tryz.prog 124 #[.agg #[.int .i64 1, .int .i64 x.num, .int .i64 x.den, .string x.text, .slice none 0 0], .int .i64 0, .int .i64 1000] W fun e w' => e = .returned (.bool (gcdB x)) ∧ Below W.heap.size W w') := by
      rw [e, ← h]; exact fun W => between_num x _ _ W h
    rw [h]
    obtain ⟨B, hB⟩ : ∃ B, B = gcdB x := ⟨_, rfl⟩
    rw [← hB] at HB ⊢
    clear h e hB
    go_enter Tryz.func125, Tryz.ntmps125
    go_wp2_with (go_at_call 124; refine (HB.out _).mono ?_; rintro e w1 ⟨rfl, hb1⟩)
    go_ret
    exact ⟨rfl, below_one hb1⟩
  · subst h
    have e : gcdB ⟨6, 0, 0, ⟨#[]⟩⟩ = false := by simp [gcdB]
    rw [e]
    clear e
    go_enter Tryz.func125, Tryz.ntmps125
    go_wp2_with (go_at_call 124; refine (between_doubt _ _ _).mono ?_; rintro e w1 ⟨rfl, hb1⟩)
    go_ret
    exact ⟨rfl, below_one hb1⟩

theorem enter_gcdMember (a : Value) (W : World) : Sem.run Tryz.prog (callFunc 125 #[a]) W = .ok (.enter 125 #[a]) W := by kernel_rfl

set_option maxRecDepth 100000 in
set_option maxHeartbeats 2000000 in
theorem fitsNumbers_Gcd (vs : List FV) (v : Value) (w : World) (hr : Row w w.heap.size 5 v (vs.map FV.list)) (hk : ∀ x ∈ vs, x.kind = 1 ∨ x = ⟨6, 0, 0, ⟨#[]⟩⟩) (hn : vs.length ≤ 1000000) (B : Bool) (hE : (decide (0 < vs.length) && vs.all gcdB) = B) :
    Calls Tryz.prog 44 #[.string ⟨#[71, 67, 68]⟩, v] w fun e w' => e = .returned (.tuple #[.bool B, .bool true]) ∧ Below w.heap.size w w' := by
  have h2 : ∀ z ∈ vs, z.kind ≠ 2 := fun z hz => by rcases hk z hz with h | h <;> rw [h] <;> simp
  have H1 : Hid (∀ W, Below w.heap.size w W → Calls Tryz.prog 122 #[v, .func (.func 123) #[] #[]] W fun e w' => (∃ b, e = .returned (.bool b)) ∧ Below W.heap.size W w') :=
    fun W hW => (every_numeric vs v W ((hr.below hW).more hW.size) hn h2).mono fun e w' ⟨he, hb⟩ => ⟨⟨_, he⟩, hb⟩
  obtain ⟨B', hB'⟩ : ∃ B', B' = vs.all gcdB := ⟨_, rfl⟩
  have H2 : Hid (∀ W, Below w.heap.size w W → Calls Tryz.prog 122 #[v, .func (.func 125) #[] #[]] W fun e w' => e = .returned (.bool B') ∧ Below W.heap.size W w') := by
    intro W hW
    rw [hB']
    exact every_flat _ gcdB vs v W ((hr.below hW).more hW.size) hn enter_gcdMember fun z hz W' => gcdMember z W' (hk z hz)
  rw [← hB'] at hE
  have hmf : ∀ (fn : Fn) (first cap : Array Value) (w : World), (Instr.makeFunc fn first cap).run Tryz.prog w = .ok (.func fn first cap) w := fun _ _ _ _ => rfl
  obtain ⟨A, c, rfl⟩ : ∃ A c, v = .slice A vs.length c := by
    obtain ⟨A, c, h, _⟩ := hr
    exact ⟨A, c, by rw [List.length_map] at h; exact h⟩
  by_cases h0 : (0 : Int) < (vs.length : Int)
  · have e : B = B' := by rw [← hE]; have : 0 < vs.length := by omega
                          simp [this]
    rw [e]
    clear hr hk hE h2 hB' e
    go_enter Tryz.func44, Tryz.ntmps44
    go_wp2_with fail
    refine (H1.out _ (Below.refl _ _)).mono ?_
    rintro e w1 ⟨⟨b0, rfl⟩, hb1⟩
    go_wp2_with fail
    refine (H2.out _ hb1).mono ?_
    rintro e w2 ⟨rfl, hb2⟩
    go_wp2
    go_ret2
    exact ⟨rfl, hb1.trans (hb2.mono hb1.size)⟩
  · have e : B = false := by rw [← hE]; have : ¬ 0 < vs.length := by omega
                             simp [this]
    rw [e]
    clear hr hk hE h2 hB' e
    go_enter Tryz.func44, Tryz.ntmps44
    go_wp2_with fail
    refine (H1.out _ (Below.refl _ _)).mono ?_
    rintro e w1 ⟨⟨b0, rfl⟩, hb1⟩
    go_wp2
    go_ret2
    exact ⟨rfl, hb1⟩

theorem Below.intoDrewN {B n : Nat} {w w' : World} (h : Below B w w') : Below B w (w'.drewN n) := ⟨h.os, h.tape, h.output, h.size, h.block⟩

set_option maxRecDepth 100000 in
theorem divisor_any (a b : Nat) (w : World) (ha : a ≤ 1000000) (hb : b ≤ 1000000) :
    Calls Tryz.prog 179 #[.int .i64 a, .int .i64 b] w fun e w' => e = .returned (.int .i64 (Nat.gcd a b : Nat)) ∧ Below w.heap.size w w' := by
  go_enter Tryz.func179, Tryz.ntmps179
  go_wp2
  go_loopg [0, 1] b (fun gn s t wr => Below w.heap.size w wr ∧ ∃ p q : Nat, gn = q ∧ p ≤ 1000000 ∧ q ≤ 1000000 ∧ Nat.gcd p q = Nat.gcd a b ∧ s = .int .i64 p ∧ t = .int .i64 q)
  case atStart => exact ⟨Below.refl _ _, a, b, rfl, ha, hb, rfl, rfl, rfl⟩
  case round =>
    obtain ⟨hbw, p, q, hgq, hp, hq, hg, rfl, rfl⟩ := hrel
    have HG := Lib.hid hg
    have HGQ := Lib.hid hgq
    clear hg hgq
    by_cases h0 : q = 0
    · have hc : ((q : Int) != 0) = false := by simpa using h0
      have HR : Hid ((p : Int) = (Nat.gcd a b : Nat)) := by rw [Hid, ← HG.out, h0, Nat.gcd_zero_right]
      clear h0
      go_wp2
      go_ret
      exact ⟨congrArg (fun z => Ending.returned (.int .i64 z)) HR.out, hbw⟩
    · have hc : ((q : Int) != 0) = true := by simpa using h0
      have hz : ¬ (q : Int) = 0 := by omega
      have hlt : p % q < q := Nat.mod_lt _ (by omega)
      have HL := Lib.hid hlt
      have HQ := Lib.hid hq
      clear h0 hlt
      go_wp2
      go_quiet (fail)
      go_wp2
      have hgq := HGQ.out
      go_roundg (p % q)
      case measure => have := HL.out; omega
      case rel => exact ⟨Below.intoDrewN hbw, q, p % q, rfl, HQ.out, by have := HL.out; have := HQ.out; omega, by rw [← HG.out, Nat.gcd_comm p q, Nat.gcd_rec q p, Nat.gcd_comm], rfl, rfl⟩

theorem Below.ofDrew {w w' : World} {B : Nat} (h : Below B w.drew w') : Below B w w' := ⟨h.os, h.tape, h.output, h.size, h.block⟩

theorem five_sets {W : World} {g : Nat} {a0 a1 a2 a3 a4 b0 b1 b2 b3 b4 : Value} {T : TypeId} (h : W.heap[g]? = some (.cells #[a0, a1, a2, a3, a4] T)) :
    (((((W.setCell ⟨g, 0, none⟩ b0).setCell ⟨g, 1, none⟩ b1).setCell ⟨g, 2, none⟩ b2).setCell ⟨g, 3, none⟩ b3).setCell ⟨g, 4, none⟩ b4).heap[g]? = some (.cells #[b0, b1, b2, b3, b4] T) := by
  have h1 := heap_set_same h (j := 0) b0
  have h2 := heap_set_same h1 (j := 1) b1
  have h3 := heap_set_same h2 (j := 2) b2
  have h4 := heap_set_same h3 (j := 3) b3
  have h5 := heap_set_same h4 (j := 4) b4
  simpa using h5

set_option maxRecDepth 100000 in
set_option maxHeartbeats 4000000 in
theorem many_Gcd (ns : List Nat) (v : Value) (w : World) (hr : Row w w.heap.size 5 v ((ns.map wh).map FV.list)) (hB : ∀ n ∈ ns, n ≤ 1000) (h0 : 0 < ns.length) (hn : ns.length ≤ 30) :
    Calls Tryz.prog 82 #[.string ⟨#[71, 67, 68]⟩, v] w fun e w' => e = .returned (.agg #[.int .i64 1, .int .i64 (gcds ns : Nat), .int .i64 1, .string ⟨#[]⟩, .slice none 0 0]) ∧ Below w.heap.size w w' := by
  have HK1 : Hid (∀ x ∈ ns.map wh, x.kind = 1) := by intro x hx; obtain ⟨n, _, rfl⟩ := List.mem_map.1 hx; rfl
  have HK5 : Hid (∀ x ∈ ns.map wh, x.kind ≠ 5) := by intro x hx; obtain ⟨n, _, rfl⟩ := List.mem_map.1 hx; simp [wh]
  have HD1 : Hid (∀ x ∈ ns.map wh, x.den = 1) := by intro x hx; obtain ⟨n, _, rfl⟩ := List.mem_map.1 hx; rfl
  have HNL : Hid ((ns.map wh).length ≤ 1000000) := by rw [Hid, List.length_map]; omega
  have HB := Lib.hid hB
  obtain ⟨w0, hw0⟩ : ∃ w0 : World, w0 = w.alloc (.cells #[.int .i64 0, .int .i64 0, .int .i64 0, .string ⟨#[]⟩, .slice none 0 0] 30) := ⟨_, rfl⟩
  have hb0 : Below w.heap.size w w0 := by rw [hw0]; exact (Below.refl _ _).alloc (Nat.le_refl _) _
  have k0 : w0.heap[w.heap.size]? = some (.cells #[.int .i64 0, .int .i64 0, .int .i64 0, .string ⟨#[]⟩, .slice none 0 0] 30) := by rw [hw0]; exact heap_new1 _ _
  have HW0 := Lib.hid hw0.symm
  have HR := Lib.hid ((hr.below hb0).more hb0.size)
  have hu26 := Tryz.underlying30
  clear hr hw0 hB
  go_enter Tryz.func82, Tryz.ntmps82
  go_wp2_with (go_at_call 17; rw [HW0.out]; refine (flat_flat (ns.map wh) v _ HR.out HK5.out HNL.out).mono ?_; rintro e w1 ⟨v1, rfl, hR1, hb1⟩; have k1 := (hb1.block _ (heap_lt k0)).trans k0; have HR1 := Lib.hid hR1; have pb1 := hb0.trans (hb1.mono hb0.size); clear hR1)
  obtain ⟨A, c, rfl, hc1, hc2, hc3⟩ := HR1.out
  rw [List.length_map, List.length_map] at hc1 hc3 ⊢
  have HC := Lib.hid hc3
  clear hc2 hc3
  go_loop [5] (fun i => ∃ k : Nat, k ≤ ns.length ∧ i = .int .i64 k) (fun i => ns.length - (intOf i).toNat)
  case atStart => exact ⟨0, Nat.zero_le _, rfl⟩
  case round =>
    obtain ⟨k, hk1, rfl⟩ := hrel
    by_cases hlt : k < ns.length
    · obtain ⟨g, o, rfl, hg, hcell⟩ := HC.out (by omega)
      obtain ⟨n, hnk⟩ : ∃ n, ns[k]? = some n := ⟨_, List.getElem?_eq_getElem hlt⟩
      have q0 := hcell k (FV.list (wh n)) (by rw [List.getElem?_map, List.getElem?_map, hnk]; rfl) 0 (.int .i64 1) rfl
      simp only [Nat.add_zero] at q0
      have HL : Hid (k < ns.length) := hlt
      clear hcell hnk
      go_wp2
      have hlt := HL.out
      go_round
      case rel => exact ⟨k + 1, by omega, by go_num⟩
      case measure => simp [intOf]; omega
    · obtain rfl : k = ns.length := by omega
      have hz : ¬ (ns.length : Int) = 0 := by omega
      have h30 : (ns.length : Int) ≤ 30 := by omega
      have hz2 : (ns.length = 0) = False := eq_false (by omega)
      have h302 : (30 < ns.length) = False := eq_false (by omega)
      have hz3 : (((ns.length : Nat) : Int) == 0) = false := by have h := hz; simpa using h
      clear hlt
      go_wp2_with (first
        | (go_at_call 174; refine (wholes_int (ns.map wh) _ _ (by simpa using HR1.out) HK1.out HD1.out HNL.out).mono ?_; rintro e w2 ⟨v2, rfl, hR2, hb2⟩; have k2 := (hb2.block _ (heap_lt k1)).trans k1; have pb2 := pb1.trans (hb2.mono pb1.size); have HR2 := Lib.hid hR2; obtain ⟨A2, c2, hv2, hcc1, hcc2, hcc3⟩ := hR2; rw [List.length_map, List.length_map] at hv2 hcc1 hcc3; subst hv2; have HC2 := Lib.hid hcc3; clear hcc2 hcc3))
      refine (int_small 1 _ (by omega) (by omega)).mono ?_
      rintro e w4 ⟨rfl, hb4⟩
      have qb4 := below_one hb4
      have k4 := (qb4.block _ (heap_lt k2)).trans k2
      have pb4 := below_next pb2 pb2.size qb4
      go_wp2_with fail
      refine (int_small 0 _ (by omega) (by omega)).mono ?_
      rintro e w5 ⟨rfl, hb5⟩
      obtain ⟨cO, fO, zO, kO⟩ := box_cells (heap_new1 w4 _) hb5
      have qb5 := below_one hb5
      go_wp2_with fail
      obtain ⟨w6, hw6⟩ : ∃ w6 : World, w6 = (((((w5.setCell ⟨w4.heap.size, 0, none⟩ (.int .i64 1)).setCell ⟨w4.heap.size, 1, none⟩ (.int .i64 0)).setCell ⟨w4.heap.size, 2, none⟩ (.int .i64 1)).setCell ⟨w4.heap.size, 3, none⟩ (.string ⟨#[]⟩)).setCell ⟨w4.heap.size, 4, none⟩ (.slice none 0 0)) := ⟨_, rfl⟩
      rw [← hw6]
      have k6 : w6.heap[w4.heap.size]? = some (.cells #[.int .i64 1, .int .i64 0, .int .i64 1, .string ⟨#[]⟩, .slice none 0 0] 30) := by rw [hw6]; exact five_sets kO
      have hb25 : Below w2.heap.size w2 w5 := qb4.trans (qb5.mono qb4.size)
      have hle : w2.heap.size ≤ w4.heap.size := qb4.size
      have hb26 : Below w2.heap.size w2 w6 := by rw [hw6]; exact ((((hb25.setCell hle _).setCell hle _).setCell hle _).setCell hle _).setCell hle _
      have KO : Hid (w4.heap.size < w6.heap.size) := heap_lt k6
      clear hw6 cO fO zO kO
      go_loop [11] (fun i => ∃ k : Nat, k ≤ ns.length ∧ i = .int .i64 k) (fun i => ns.length - (intOf i).toNat)
      case atStart => exact ⟨0, Nat.zero_le _, rfl⟩
      case round =>
        obtain ⟨k, hk1, rfl⟩ := hrel
        by_cases hlt : k < ns.length
        · obtain ⟨g2, o2, rfl, hg2, hcell2⟩ := HC2.out (by omega)
          obtain ⟨n, hnk⟩ : ∃ n, ns[k]? = some n := ⟨_, List.getElem?_eq_getElem hlt⟩
          have q0 := (hb26.cell (p := ⟨g2, o2 + k * 1 + 0, none⟩) hg2).trans (hcell2 k [.int .i64 n] (by rw [List.getElem?_map, List.getElem?_map, hnk]; rfl) 0 _ rfl)
          simp only [Nat.add_zero, Nat.mul_one] at q0
          have hn0 : ¬ (n : Int) < 0 := by omega
          have hn1 : (n : Int) ≤ 1000 := by have := HB.out n (List.mem_of_getElem? hnk); omega
          have HL : Hid (k < ns.length) := hlt
          clear hcell2 hnk
          go_wp2
          have hlt := HL.out
          go_round
          case rel => exact ⟨k + 1, by omega, by go_num⟩
          case measure => simp [intOf]; omega
        · obtain rfl : k = ns.length := by omega
          clear hlt
          go_wp2_with fail
          go_loopw [12] (fun i wr => ∃ k : Nat, k ≤ ns.length ∧ i = .int .i64 k ∧ Below w2.heap.size w2 wr ∧ wr.heap[w4.heap.size]? = some (.cells #[.int .i64 1, .int .i64 (gcds (ns.take k) : Nat), .int .i64 1, .string ⟨#[]⟩, .slice none 0 0] 30)) (fun i _ => ns.length - (intOf i).toNat)
          case atStart => exact ⟨0, Nat.zero_le _, rfl, hb26, by simpa [gcds] using k6⟩
          case round =>
            obtain ⟨k, hk1, rfl, hbr, kr⟩ := hrel
            obtain ⟨G, hG⟩ : ∃ G, G = gcds (ns.take k) := ⟨_, rfl⟩
            rw [← hG] at kr
            have HGG := Lib.hid hG
            have KR := Lib.hid kr
            obtain ⟨cr, fr', zr⟩ := row_facts kr
            have r0 := cr 0
            have r1 := cr 1
            simp only [List.getElem?_toArray, List.getElem?_cons_succ, List.getElem?_cons_zero] at r0 r1
            by_cases hlt : k < ns.length
            · obtain ⟨g2, o2, rfl, hg2, hcell2⟩ := HC2.out (by omega)
              obtain ⟨n, hnk⟩ : ∃ n, ns[k]? = some n := ⟨_, List.getElem?_eq_getElem hlt⟩
              have q0 := (hbr.cell (p := ⟨g2, o2 + k * 1 + 0, none⟩) hg2).trans (hcell2 k [.int .i64 n] (by rw [List.getElem?_map, List.getElem?_map, hnk]; rfl) 0 _ rfl)
              simp only [Nat.add_zero, Nat.mul_one] at q0
              have hn1 : n ≤ 1000 := HB.out n (List.mem_of_getElem? hnk)
              have hG1 : G ≤ 1000 := by rw [hG]; exact gcds_le ns 1000 HB.out k
              have HT : Hid (gcds (ns.take (k + 1)) = Nat.gcd G n) := by rw [Hid, hG]; exact gcds_take ns k n hnk
              have HL : Hid (k < ns.length) := hlt
              clear hcell2 hnk hG kr cr
              go_wp2_with fail
              go_still_tail 6, (by kernel_rfl)
              change wpList _ _ _ _ _ wr.drew
              have hgc : Nat.gcd G n ≤ 1000 := by rw [← HT.out]; exact gcds_le ns 1000 HB.out (k + 1)
              clear r0 r1 fr'
              go_wp2_with (first
                | (go_at_call 179; refine (divisor_any G n _ (by omega) (by omega)).mono ?_; rintro e w7 ⟨rfl, hb7⟩; have hb7' := Below.ofDrew hb7; have k7 := (hb7'.block _ (heap_lt KR.out)).trans KR.out)
                | (go_at_call 23; refine (int_small _ _ (by omega) (by omega)).mono ?_; rintro e w8 ⟨rfl, hb8⟩; obtain ⟨c8, f8, z8, k8⟩ := box_cells k7 hb8))
              have hlt := HL.out
              have hb28 : Below w2.heap.size w2 w8 := hbr.trans ((hb7'.trans (hb8.mono hb7'.size)).mono hbr.size)
              go_roundw
              case rel => exact ⟨k + 1, by omega, by go_num, ((((hb28.setCell hle _).setCell hle _).setCell hle _).setCell hle _).setCell hle _, by rw [HT.out]; exact five_sets k8⟩
              case measure => simp [intOf]; omega
            · obtain rfl : k = ns.length := by omega
              have HR : Hid (G = gcds ns) := by rw [Hid, HGG.out, List.take_length]
              obtain ⟨cw, fw, zw, kw⟩ := box_cells k2 hbr
              have hne : w4.heap.size ≠ w.heap.size := by have := heap_lt k2; omega
              have pbr := below_next pb2 pb2.size hbr
              clear hlt r0 r1 hG
              go_wp2
              refine bodyPost_ret (v := .agg #[.int .i64 1, .int .i64 G, .int .i64 1, .string ⟨#[]⟩, .slice none 0 0]) (by simp [results, Tryz.results82, go_sem, cw]) rfl ⟨by rw [HR.out], ?_⟩
              clear cw fw cr fr'
              (repeat refine below_set0 ?_ _ _)
              exact pbr

set_option maxRecDepth 100000 in
set_option maxHeartbeats 2000000 in
theorem callMath_Gcd (ns : List Nat) (v : Value) (w : World) (hr : Row w w.heap.size 5 v ((ns.map wh).map FV.list)) (hB : ∀ n ∈ ns, n ≤ 1000) (h0 : 0 < ns.length) (hn : ns.length ≤ 30) :
    Calls Tryz.prog 29 #[.string ⟨#[71, 67, 68]⟩, v] w fun e w' => e = .returned (.tuple #[.agg #[.int .i64 1, .int .i64 (gcds ns : Nat), .int .i64 1, .string ⟨#[]⟩, .slice none 0 0], .bool true]) ∧ Below w.heap.size w w' := by
  obtain ⟨q, hq⟩ : ∃ q : Int, q = (gcds ns : Nat) := ⟨_, rfl⟩
  have HP : Hid (∀ W, Below w.heap.size w W → Calls Tryz.prog 82 #[.string ⟨#[71, 67, 68]⟩, v] W fun e w' => e = .returned (.agg #[.int .i64 1, .int .i64 q, .int .i64 1, .string ⟨#[]⟩, .slice none 0 0]) ∧ Below W.heap.size W w') := by
    rw [hq]; exact fun W hW => many_Gcd ns v W ((hr.below hW).more hW.size) hB h0 hn
  rw [← hq]
  clear hr hq
  go_enter Tryz.func29, Tryz.ntmps29
  go_wp2_with (go_at_call 82; refine (HP.out _ ((Below.refl _ _).alloc (Nat.le_refl _) _)).mono ?_; rintro e w1 ⟨rfl, hb1⟩; obtain ⟨c1, f1, z1, k1⟩ := box_cells (heap_new1 _ _) hb1)
  refine bodyPost_ret (v := .tuple #[.agg #[.int .i64 1, .int .i64 q, .int .i64 1, .string ⟨#[]⟩, .slice none 0 0], .bool true]) (by simp [results, Tryz.results29, go_sem, c1]) rfl ⟨rfl, ?_⟩
  have pb := below_one hb1
  clear c1 f1
  (repeat refine below_set0 ?_ _ _)
  exact pb

/-- GCD of the reference, of whole numbers. -/
theorem call_Gcd (ns : List Nat) (v : Value) (w : World) (hr : Row w w.heap.size 5 v ((ns.map wh).map FV.list)) (hB : ∀ n ∈ ns, n ≤ 1000) (h0 : 0 < ns.length) (hn : ns.length ≤ 30) :
    Calls Tryz.prog 7 #[.string ⟨#[71, 67, 68]⟩, v] w fun e w' => e = .returned (.agg #[.int .i64 1, .int .i64 (gcds ns : Nat), .int .i64 1, .string ⟨#[]⟩, .slice none 0 0]) ∧ Below w.heap.size w w' := by
  refine call_any _ v w _ _ _ _ _ _ _ fun W0 hW0 => ?_
  have hr0 := (hr.below hW0).more hW0.size
  have hk : ∀ x ∈ ns.map wh, x.kind = 1 ∨ x = ⟨6, 0, 0, ⟨#[]⟩⟩ := by intro x hx; obtain ⟨n, _, rfl⟩ := List.mem_map.1 hx; exact .inl rfl
  have hE : (decide (0 < (ns.map wh).length) && (ns.map wh).all gcdB) = true := by
    have h1 : (ns.map wh).all gcdB = true := by
      rw [List.all_eq_true]
      intro x hx
      obtain ⟨n, hnn, rfl⟩ := List.mem_map.1 hx
      have h1 : (n : Int) ≤ 1000 := by have := hB n hnn; omega
      have h2 : (0 : Int) ≤ (n : Int) := by omega
      simp [gcdB, btw, wh, h1, h2]
    rw [h1, List.length_map]
    simpa using h0
  refine callOver_CallMath _ v W0 _ _ _ _ _ _ _ ?_ ?_ ?_ ?_ ?_
  · exact fun W hW => fits_Numbers _ v W _ fun W' hW' => fitsNumbers_Gcd _ v W' ((((hr0.below hW).more hW.size).below hW').more hW'.size) hk (by rw [List.length_map]; omega) true hE
  · exact fun W _ => stat_Gcd v W
  · exact fun W _ => criteria_Gcd v W
  · exact fun W _ => lookup_Gcd v W
  · exact fun W hW => callMath_Gcd ns v W ((hr0.below hW).more hW.size) hB h0 hn

theorem call_Gcd_no (vs : List FV) (v : Value) (w : World) (hr : Row w w.heap.size 5 v (vs.map FV.list)) (hk : ∀ x ∈ vs, x.kind = 1 ∨ x = ⟨6, 0, 0, ⟨#[]⟩⟩) (hn : vs.length ≤ 1000000) (hE : (decide (0 < vs.length) && vs.all gcdB) = false) :
    Calls Tryz.prog 7 #[.string ⟨#[71, 67, 68]⟩, v] w fun e w' => e = .returned (.agg #[.int .i64 6, .int .i64 0, .int .i64 0, .string ⟨#[]⟩, .slice none 0 0]) ∧ Below w.heap.size w w' := by
  refine call_any _ v w _ _ _ _ _ _ _ fun W0 hW0 => ?_
  have hr0 := (hr.below hW0).more hW0.size
  exact callOver_no _ v W0 fun W hW => fits_Numbers _ v W _ fun W' hW' => fitsNumbers_Gcd vs v W' ((((hr0.below hW).more hW.size).below hW').more hW'.size) hk hn false hE

end Go.Proofs.YtelkomojcohfcaaGreatDoor
