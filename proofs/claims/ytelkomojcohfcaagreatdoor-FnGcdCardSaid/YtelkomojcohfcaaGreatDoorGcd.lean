/-
The package's GCD.
-/
import Derived.Test.YtelkomojcohfcaaGreatDoorTrun
import Derived.Test.YtelkomojcohfcaaGreatDoorOnes
import Derived.Test.YtelkomojcohfcaaGreatDoorGcdP
import Derived.Deep.LoopGhost
namespace Go.Proofs.YtelkomojcohfcaaGreatDoor
open Go.RowKit Go.Fl

theorem tdiv16 (m : Int) : (16 * m).tdiv 16 = m := Int.mul_tdiv_cancel_left _ (by omega)

set_option maxRecDepth 100000 in
set_option maxHeartbeats 1000000 in
theorem gcd_any (a b x y : Nat) (w : World) (hx : Sx x (16 * (a : Int))) (hy : Sx y (16 * (b : Int))) (ha : a ≤ 1000000) (hb : b ≤ 1000000) :
    Calls Tryz.prog 40 #[.float .f64 x, .float .f64 y] w fun e w' => (∃ z, Sx z (16 * (Nat.gcd a b : Int)) ∧ e = .returned (.float .f64 z)) ∧ Below w.heap.size w w' := by
  have HT : Hid (∀ (u : Nat) (m : Nat) (W : World), Sx u (16 * (m : Int)) → m ≤ 1000000 → Calls Tryz.prog 114 #[.float .f64 u] W fun e w' => (∃ z, Sx z (16 * (m : Int)) ∧ e = .returned (.float .f64 z)) ∧ Below W.heap.size W w') := by
    intro u m W h1 h2
    have q := trunc_any u (16 * (m : Int)) W h1 (by omega) (by omega)
    rw [tdiv16] at q
    exact q
  have HX := Lib.hid hx
  have HY := Lib.hid hy
  clear hx hy
  go_enter Tryz.func40, Tryz.ntmps40
  go_wp2_with fail
  refine (HT.out x a _ HX.out ha).mono ?_
  rintro e w1 ⟨⟨u, hu, rfl⟩, hb1⟩
  have HU := Lib.hid hu
  clear hu
  go_wp2_with fail
  refine (HT.out y b _ HY.out hb).mono ?_
  rintro e w2 ⟨⟨v, hv, rfl⟩, hb2⟩
  have HV := Lib.hid hv
  clear hv
  have hc1 : (FloatKind.f64.format.order u 0 == some .eq) = decide (a = 0) := (Sx.eq_ HU.out Sx.zero).trans (by congr 1; apply propext; omega)
  have hc2 : (FloatKind.f64.format.order v 0 == some .eq) = decide (b = 0) := (Sx.eq_ HV.out Sx.zero).trans (by congr 1; apply propext; omega)
  have pb2 := hb1.trans (hb2.mono hb1.size)
  by_cases ha0 : a = 0
  · have hd : decide (a = 0) = true := by simpa using ha0
    rw [hd] at hc1
    have HR : Hid (Nat.gcd a b = b) := by rw [Hid, ha0]; exact Nat.gcd_zero_left b
    clear hc2 ha0 hd
    go_wp2
    go_ret
    exact ⟨⟨v, by rw [HR.out]; exact HV.out, rfl⟩, pb2⟩
  · have hd : decide (a = 0) = false := by simpa using ha0
    rw [hd] at hc1
    by_cases hb0 : b = 0
    · have hd2 : decide (b = 0) = true := by simpa using hb0
      rw [hd2] at hc2
      have HR : Hid (Nat.gcd a b = a) := by rw [Hid, hb0]; exact Nat.gcd_zero_right a
      clear ha0 hb0 hd hd2
      go_wp2
      go_ret
      exact ⟨⟨u, by rw [HR.out]; exact HU.out, rfl⟩, pb2⟩
    · have hd2 : decide (b = 0) = false := by simpa using hb0
      rw [hd2] at hc2
      have HA : Hid (0 < a ∧ 0 < b) := ⟨by omega, by omega⟩
      clear ha0 hb0 hd hd2
      go_wp2
      go_loopg [0, 1] (a + b) (fun gn s t wr => w2 = wr ∧ ∃ p q m n : Nat, gn = p + q ∧ 0 < p ∧ 0 < q ∧ p ≤ 1000000 ∧ q ≤ 1000000 ∧ Nat.gcd p q = Nat.gcd a b ∧ s = .float .f64 m ∧ t = .float .f64 n ∧ Sx m (16 * (p : Int)) ∧ Sx n (16 * (q : Int)))
      case atStart => exact ⟨rfl, a, b, _, _, rfl, HA.out.1, HA.out.2, ha, hb, rfl, rfl, rfl, HU.out, HV.out⟩
      case round =>
        obtain ⟨rfl, p, q, m, n, hgn, hp, hq, hp2, hq2, hg, rfl, rfl, hm, hn⟩ := hrel
        have HM := Lib.hid hm
        have HN := Lib.hid hn
        have HG := Lib.hid hg
        have HGN := Lib.hid hgn
        have HPQ : Hid (0 < p ∧ 0 < q) := ⟨hp, hq⟩
        have hne := Sx.ne_ hm hn
        have hgt := Sx.gt_ hm hn
        clear hm hn hg hgn hp hq
        by_cases heq : p = q
        · have hc : (FloatKind.f64.format.order m n != some .eq) = false := hne.trans (by simp; omega)
          have HR : Hid (p = Nat.gcd a b) := by rw [Hid, ← HG.out, heq, Nat.gcd_self]
          clear hne hgt heq
          go_wp2
          go_ret
          exact ⟨⟨m, by rw [← HR.out]; exact HM.out, rfl⟩, pb2⟩
        · have hc : (FloatKind.f64.format.order m n != some .eq) = true := hne.trans (by simp; omega)
          by_cases hlt : q < p
          · have hc3 : (FloatKind.f64.format.order m n == some .gt) = true := hgt.trans (by simp; omega)
            obtain ⟨r, hr, hsr⟩ : ∃ r, Ieee.double.sub m n = some r ∧ Sx r (16 * ((p - q : Nat) : Int)) := by
              obtain ⟨r, h1, h2⟩ := Sx.sub HM.out HN.out (by omega) (by omega)
              refine ⟨r, h1, ?_⟩
              have e : 16 * (p : Int) - 16 * (q : Int) = 16 * ((p - q : Nat) : Int) := by omega
              rwa [e] at h2
            have hs : ∀ w, (binOp .sub 35 (.float .f64 m) (.float .f64 n)).run Tryz.prog w = .ok (.float .f64 r) w := fun w => run_float_arith w .sub _ .f64 _ _ _ hr
            have HSR := Lib.hid hsr
            have HL := Lib.hid hlt
            clear hne hgt hsr hr hlt heq
            go_wp2
            have hgn := HGN.out
            have hpq := HPQ.out
            have hlt := HL.out
            go_roundg (p - q + q)
            case measure => omega
            case rel => exact ⟨rfl, p - q, q, r, n, rfl, by omega, hpq.2, by omega, hq2, by rw [← HG.out]; exact Nat.gcd_sub_self_left (by omega), rfl, rfl, HSR.out, HN.out⟩
          · have hc3 : (FloatKind.f64.format.order m n == some .gt) = false := hgt.trans (by simp; omega)
            obtain ⟨r, hr, hsr⟩ : ∃ r, Ieee.double.sub n m = some r ∧ Sx r (16 * ((q - p : Nat) : Int)) := by
              obtain ⟨r, h1, h2⟩ := Sx.sub HN.out HM.out (by omega) (by omega)
              refine ⟨r, h1, ?_⟩
              have e : 16 * (q : Int) - 16 * (p : Int) = 16 * ((q - p : Nat) : Int) := by omega
              rwa [e] at h2
            have hs : ∀ w, (binOp .sub 35 (.float .f64 n) (.float .f64 m)).run Tryz.prog w = .ok (.float .f64 r) w := fun w => run_float_arith w .sub _ .f64 _ _ _ hr
            have HSR := Lib.hid hsr
            have HL : Hid (p < q) := by rw [Hid]; omega
            clear hne hgt hsr hr hlt heq
            go_wp2
            have hgn := HGN.out
            have hpq := HPQ.out
            have hlt := HL.out
            go_roundg (p + (q - p))
            case measure => omega
            case rel => exact ⟨rfl, p, q - p, m, r, rfl, hpq.1, by omega, hp2, by omega, by rw [← HG.out]; exact Nat.gcd_sub_self_right (by omega), rfl, rfl, HM.out, HSR.out⟩

theorem fltInfo : (Tryz.prog.info? 35).map (fun i => (i.zero, i.size, i.bytes)) = some (some (.float .f64 0), 1, 8) := by kernel_rfl

/-- The words of these whole numbers. -/
def Words (us : List Nat) (ns : List Nat) : Prop := ∀ (j u n : Nat), us[j]? = some u → ns[j]? = some n → Sx u (16 * (n : Int))
theorem Words.snoc {us ns : List Nat} {i u n : Nat} (h : Words us ns) (hl : us.length = i) (hn : ns[i]? = some n) (hu : Sx u (16 * (n : Int))) : Words (us ++ [u]) ns := by
  intro j u' n' h1 h2
  rcases Nat.lt_or_ge j i with hj | hj
  · rw [List.getElem?_append_left (by omega)] at h1
    exact h j u' n' h1 h2
  · have hji : j = i := by
      have := (List.getElem?_eq_some_iff.1 h1).1
      rw [List.length_append, List.length_singleton] at this
      omega
    subst hji
    rw [List.getElem?_append_right (by omega), hl, Nat.sub_self] at h1
    have e1 : u = u' := by simpa using h1
    rw [hn] at h2
    injection h2 with h2
    subst e1; subst h2
    exact hu

set_option maxRecDepth 100000 in
set_option maxHeartbeats 4000000 in
theorem GCD_fn (ns : List Nat) (l : Nat) (es : List (Nat × Value)) (f : Option Addr) (w : World) (hB : ∀ n ∈ ns, n ≤ 1000) (h0 : 0 < ns.length) (hn : ns.length ≤ 1000000) (hI : IList w l (ns.map wh) es) :
    Calls Tryz.prog 21 #[.pointer f, .pointer (some ⟨l, 0, none⟩)] w
      fun e w' => (∃ y, Sx y (16 * (gcds ns : Int)) ∧ e = .returned (.agg #[.string ⟨#[]⟩, .float .f64 y, .string ⟨#[]⟩, .slice none 0 0, .slice none 0 0, .bool false, .string ⟨#[]⟩, .int .u8 1, .pointer none, .pointer none])) ∧ Below w.heap.size w w' := by
  have hu80 := Tryz.underlying58
  have hta := assertArg
  have hlen : es.length = ns.length := by rw [hI.len, List.length_map]
  have HLen := Lib.hid hlen
  obtain ⟨w0, hw0⟩ : ∃ w0 : World, w0 = w.alloc (.cells #[.string ⟨#[]⟩, .float .f64 0, .string ⟨#[]⟩, .slice none 0 0, .slice none 0 0, .bool false, .string ⟨#[]⟩, .int .u8 0, .pointer none, .pointer none] 58) := ⟨_, rfl⟩
  have hb0 : Below w.heap.size w w0 := by rw [hw0]; exact (Below.refl _ _).alloc (Nat.le_refl _) _
  have k0 : w0.heap[w.heap.size]? = some (.cells #[.string ⟨#[]⟩, .float .f64 0, .string ⟨#[]⟩, .slice none 0 0, .slice none 0 0, .bool false, .string ⟨#[]⟩, .int .u8 0, .pointer none, .pointer none] 58) := by rw [hw0]; exact heap_new1 _ _
  have HW0 := Lib.hid hw0.symm
  have hI0 : IList w0 l (ns.map wh) es := ⟨hI.ring.below hb0, hI.len, hI.vals⟩
  have HI := Lib.hid hI0
  have HB := Lib.hid hB
  have HF2 : Hid (some (⟨nx l es 0, 0, none⟩ : Addr) = nxp es 0) := by
    rw [Hid]; unfold nx nxp
    cases hh : es[0]? with
    | none => exfalso; have h1 := List.getElem?_eq_none_iff.1 hh; have h2 := HLen.out; omega
    | some p => rfl
  have hz : ¬ (ns.length : Int) = 0 := by omega
  clear hI hI0 hlen hw0 hB
  go_enter Tryz.func21, Tryz.ntmps21
  go_wp2_with (first
    | (go_at_call 34; rw [HW0.out]; refine (len_any _ HI.out.ring).mono ?_; rintro e w1 ⟨rfl, rfl⟩; rw [HLen.out])
    | (go_at_call 36; refine (front_some _ HI.out.ring (by rw [HLen.out]; omega)).mono ?_; rintro e w1 ⟨rfl, rfl⟩))
  go_loopg [5, 6, 7] ns.length (fun gn vv s a wr => ∃ (i : Nat) (us : List Nat), gn = ns.length - i ∧ i ≤ ns.length ∧ us.length = i ∧ Words us ns ∧ Own wr w0.heap.size 35 1 s (us.map fun u => [Value.float .f64 u]) ∧ a = .pointer (nxp es i) ∧ Below w0.heap.size w0 wr)
  case atStart => exact ⟨0, [], rfl, Nat.zero_le _, rfl, fun j u n h => by simp at h, Own.nil_ _ _ _ _, by rw [← HF2.out], Below.refl _ _⟩
  case round =>
    obtain ⟨i, us, hgi, hi, hul, hws, hown, rfl, hb⟩ := hrel
    have HG := Lib.hid hgi
    have HUL := Lib.hid hul
    have HWS := Lib.hid hws
    clear hgi hws
    by_cases hlt : i < ns.length
    · obtain ⟨n, hni⟩ : ∃ n, ns[i]? = some n := ⟨_, List.getElem?_eq_getElem hlt⟩
      have hxi : (ns.map wh)[i]? = some (wh n) := by rw [List.getElem?_map, hni]; rfl
      obtain ⟨p, hpi⟩ : ∃ p, es[i]? = some p := ⟨_, List.getElem?_eq_getElem (by have := HLen.out; omega)⟩
      obtain ⟨g, hg, hpv⟩ := HI.out.vals i (wh n) p hxi hpi
      obtain ⟨y, hy, rfl⟩ := hg.1 rfl
      rw [wh_six] at hy
      obtain ⟨e, v⟩ := p
      dsimp only at hpv
      subst hpv
      have hnp : nxp es i = some ⟨e, 0, none⟩ := by unfold nxp; rw [hpi]
      have hR := HI.out.ring.below hb
      have KR := Lib.hid hR
      have KP := Lib.hid hpi
      have KN := Lib.hid hni
      have KH := Lib.hid hlt
      have KY := Lib.hid hy
      have HL : Hid ((us.map fun u => [Value.float .f64 u]).length = i) := by rw [Hid, List.length_map]; exact hul
      obtain ⟨ce, fe, ze⟩ := row_facts (hR.elem i e _ hpi)
      rw [hnp]
      clear hR hpi hxi hlt hnp hg hni hy hul
      go_wp2_with (first
        | (at_builtin; refine app_one (w0 := w0) w0.heap.size rfl (.tmp 43) (.tmp 45) 74 35 _ 1 8 rfl Tryz.underlying74 fltInfo rfl (by omega) (by omega) _ _ [Value.float .f64 y] rfl rfl rfl (by simp [Value.oneCell']) (by simp) (hown.alloc _) (hb.alloc hb.size _) (by have := hb.size; simp; omega) (by rw [HL.out]; omega) ?_; intro v2 w2 hown2 hb2 _; have HO2 := Lib.hid hown2; have KR2 := Lib.hid (HI.out.ring.below hb2); clear hown2 ce fe ze)
        | (go_at_call 37; refine (next_any _ KR2.out i e _ KP.out).mono ?_; rintro e w3 ⟨rfl, rfl⟩))
      have hgi := HG.out
      have hlt := KH.out
      have hul := HUL.out
      go_roundg (ns.length - (i + 1))
      case measure => omega
      case rel => exact ⟨i + 1, us ++ [y], rfl, hlt, by simp [hul], HWS.out.snoc hul KN.out KY.out, by rw [List.map_append]; exact HO2.out, rfl, hb2⟩
    · obtain rfl : i = ns.length := by omega
      have hnp : nxp es ns.length = none := by
        unfold nxp
        rw [List.getElem?_eq_none (by have := HLen.out; omega)]
      rw [hnp]
      obtain ⟨A, c, rfl, hc1, hc2, hc3⟩ := hown.row
      rw [List.length_map, hul] at hc1 hc3 ⊢
      obtain ⟨g, o, rfl, hgl, hcell⟩ := hc3 h0
      have HC : Hid (∀ (j : Nat), j < ns.length → ∃ u n, us[j]? = some u ∧ ns[j]? = some n ∧ Sx u (16 * (n : Int)) ∧ wr.cell? ⟨g, o + j, none⟩ = some (.float .f64 u)) := by
        intro j hj
        obtain ⟨u, hu⟩ : ∃ u, us[j]? = some u := ⟨_, List.getElem?_eq_getElem (by omega)⟩
        obtain ⟨n, hn'⟩ : ∃ n, ns[j]? = some n := ⟨_, List.getElem?_eq_getElem hj⟩
        refine ⟨u, n, hu, hn', HWS.out j u n hu hn', ?_⟩
        have := hcell j [.float .f64 u] (by rw [List.getElem?_map, hu]; rfl) 0 _ rfl
        simpa using this
      obtain ⟨u0, n0, hu0, hn0, hs0, q0⟩ := HC.out 0 h0
      simp only [Nat.add_zero] at q0
      have hlt0 : (FloatKind.f64.format.order u0 0 == some .lt) = false := (Sx.lt_ hs0 Sx.zero).trans (by simp; omega)
      have HS0 := Lib.hid hs0
      have HN0 := Lib.hid hn0
      have HUS := Lib.hid hu0
      obtain ⟨c0, f0, z0, k1⟩ := box_cells k0 hb
      clear hnp hc2 hc3 hcell hown hs0 hn0 hu0 hlt
      by_cases h1 : ns.length = 1
      · have HR : Hid (gcds ns = n0) := by
          have := gcds_one ns n0 HN0.out
          rw [Hid, ← this, List.take_of_length_le (by omega)]
        have h1' : (ns.length : Int) = 1 := by omega
        clear h1
        go_wp2_with (go_at_call 39; refine (newNum_any _ _ _ HS0.out).mono ?_; rintro e w4 ⟨z4, hz4, rfl, hb4⟩; obtain ⟨c4, f4, z5, k4⟩ := box_cells k1 hb4; have HZ4 := Lib.hid hz4; clear hz4 c0 f0)
        refine bodyPost_ret (v := .agg #[.string ⟨#[]⟩, .float .f64 z4, .string ⟨#[]⟩, .slice none 0 0, .slice none 0 0, .bool false, .string ⟨#[]⟩, .int .u8 1, .pointer none, .pointer none]) (by simp [results, Tryz.results21, go_sem, c4]) rfl ⟨⟨z4, by rw [HR.out]; exact HZ4.out, rfl⟩, ?_⟩
        have pb4 := hb0.trans ((hb.trans (hb4.mono hb.size)).mono hb0.size)
        clear c4 f4
        (repeat refine below_set0 ?_ _ _)
        exact pb4
      · have h1' : ¬ (ns.length : Int) = 1 := by omega
        have h1b : (((ns.length : Nat) : Int) == 1) = false := by have h := h1'; simpa using h
        clear c0 f0
        go_wp2_with fail
        go_loopw [10, 11] (fun cd i wq => ∃ (k m : Nat), 1 ≤ k ∧ k ≤ ns.length ∧ i = .int .i64 k ∧ cd = .float .f64 m ∧ Sx m (16 * (gcds (ns.take k) : Int)) ∧ Below wr.heap.size wr wq) (fun _ i _ => ns.length - (intOf i).toNat)
        case atStart => exact ⟨1, u0, Nat.le_refl _, h0, rfl, rfl, by rw [gcds_one ns n0 HN0.out]; exact HS0.out, Below.refl _ _⟩
        case round =>
          obtain ⟨k, m, hk0, hk1, rfl, rfl, hm, hbr⟩ := hrel
          have HM := Lib.hid hm
          clear hm
          by_cases hlt : k < ns.length
          · obtain ⟨u, n, hu, hnk, hs, q⟩ := HC.out k hlt
            have q1 := (hbr.cell (p := ⟨g, o + k, none⟩) hgl).trans q
            have hlt2 : (FloatKind.f64.format.order u 0 == some .lt) = false := (Sx.lt_ hs Sx.zero).trans (by simp; omega)
            have HT : Hid (gcds (ns.take (k + 1)) = Nat.gcd (gcds (ns.take k)) n) := gcds_take ns k n hnk
            have HGB : Hid (gcds (ns.take k) ≤ 1000000 ∧ n ≤ 1000000) := ⟨Nat.le_trans (gcds_le ns 1000 HB.out k) (by omega), Nat.le_trans (HB.out n (List.mem_of_getElem? hnk)) (by omega)⟩
            have HS := Lib.hid hs
            have HL := Lib.hid hlt
            clear hs hu hnk q hlt
            go_wp2_with (go_at_call 40; refine (gcd_any _ _ m u _ HM.out HS.out HGB.out.1 HGB.out.2).mono ?_; rintro e w5 ⟨⟨z, hz, rfl⟩, hb5⟩; have HZ := Lib.hid hz; clear hz)
            have hlt := HL.out
            go_roundw
            case rel => exact ⟨k + 1, z, by omega, by omega, by go_num, rfl, by rw [HT.out]; exact HZ.out, hbr.trans (hb5.mono hbr.size)⟩
            case measure => simp [intOf]; omega
          · obtain rfl : k = ns.length := by omega
            have HR : Hid (Sx m (16 * (gcds ns : Int))) := by have := HM.out; rwa [List.take_length] at this
            have kq := (hbr.block _ (heap_lt k1)).trans k1
            clear hlt
            go_wp2_with (go_at_call 39; refine (newNum_any _ _ _ HR.out).mono ?_; rintro e w6 ⟨z6, hz6, rfl, hb6⟩; obtain ⟨c6, f6, z7, k6⟩ := box_cells kq hb6; have HZ6 := Lib.hid hz6; clear hz6)
            refine bodyPost_ret (v := .agg #[.string ⟨#[]⟩, .float .f64 z6, .string ⟨#[]⟩, .slice none 0 0, .slice none 0 0, .bool false, .string ⟨#[]⟩, .int .u8 1, .pointer none, .pointer none]) (by simp [results, Tryz.results21, go_sem, c6]) rfl ⟨⟨z6, HZ6.out, rfl⟩, ?_⟩
            have pb6 := hb0.trans ((hb.trans ((hbr.trans (hb6.mono hbr.size)).mono hb.size)).mono hb0.size)
            clear c6 f6
            (repeat refine below_set0 ?_ _ _)
            exact pb6

end Go.Proofs.YtelkomojcohfcaaGreatDoor
