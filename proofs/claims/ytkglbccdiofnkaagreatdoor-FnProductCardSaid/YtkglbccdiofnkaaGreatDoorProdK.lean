/-
The package's PRODUCT.
-/
import Derived.Test.YtkglbccdiofnkaaGreatDoorMemP
import Derived.Test.YtkglbccdiofnkaaGreatDoorOnes
namespace Go.Proofs.YtkglbccdiofnkaaGreatDoor
open Go.RowKit Go.Fl

/-- A front part of the numbers. -/
def Pfx (l : List FV) (al : List Arg) : Prop := ∃ m, memA al = l ++ m
theorem Pfx.kind {l : List FV} {al : List Arg} (h : Pfx l al) (hp : (prodV (memA al)).kind = 1) : (prodV l).kind = 1 := by
  obtain ⟨m, hm⟩ := h
  rw [hm] at hp
  exact prodV_front hp
theorem memA_split (al : List Arg) (i : Nat) : memA al = memA (al.take i) ++ memA (al.drop i) := by
  unfold memA
  rw [← List.flatMap_append, List.take_append_drop]
theorem pfx_take (al : List Arg) (i : Nat) : Pfx (memA (al.take i)) al := ⟨_, memA_split al i⟩
theorem Pfx.part {l m : List FV} {al : List Arg} (h : Pfx (l ++ m) al) : Pfx l al := by
  obtain ⟨r, hr⟩ := h
  exact ⟨m ++ r, by rw [hr, List.append_assoc]⟩
theorem pfx_tbl {al : List Arg} {i : Nat} {rows : List (List FV)} (hi : al[i]? = some (.tbl rows)) : Pfx (memA (al.take i) ++ filt rows.flatten) al := by
  have := pfx_take al (i + 1)
  rw [memA_snoc al i _ hi] at this
  exact this
theorem pfx_rows {al : List Arg} {i j : Nat} {rows : List (List FV)} (hi : al[i]? = some (.tbl rows)) : Pfx (memA (al.take i) ++ filt (rows.take j).flatten) al := by
  have h := pfx_tbl hi
  have e : filt rows.flatten = filt (rows.take j).flatten ++ filt (rows.drop j).flatten := by
    rw [← filt_append, ← List.flatten_append, List.take_append_drop]
  rw [e, ← List.append_assoc] at h
  exact h.part
theorem pfx_row {al : List Arg} {i j k : Nat} {rows : List (List FV)} {row : List FV} (hi : al[i]? = some (.tbl rows)) (hj : rows[j]? = some row) : Pfx (memA (al.take i) ++ filt (rows.take j).flatten ++ filt (row.take k)) al := by
  have h := pfx_rows (j := j + 1) hi
  have e : filt (rows.take (j + 1)).flatten = filt (rows.take j).flatten ++ (filt (row.take k) ++ filt (row.drop k)) := by
    rw [flatten_take rows j row hj, filt_append, ← filt_append (row.take k), List.take_append_drop]
  rw [e, ← List.append_assoc, ← List.append_assoc] at h
  exact h.part
theorem mul_step {y z : Nat} {l : List FV} {x : FV} (hy : Sx y (prodV l).six) (hz : Sx z x.six) (hx : x.ok) (h : (prodV (l ++ [x])).kind = 1) :
    ∃ r, Ieee.double.mul y z = some r ∧ Sx r (prodV (l ++ [x])).six := by
  rw [prodV_snoc] at h ⊢
  obtain ⟨h1, h2⟩ := six_bound _ (mulV_ok (prodV l) x)
  exact Sx.mul hy hz (mulV_six (prodV_ok l) hx h) h1 h2

theorem Inner.num1 {x : FV} {g : GA} (h : Inner x g) (h1 : x.kind = 1) : ∃ y, Sx y x.six ∧ g = ⟨y, ⟨#[]⟩, false, ⟨#[]⟩, 1⟩ := h.1 h1
theorem Inner.type0 {x : FV} {g : GA} (h : Inner x g) (h0 : x.kind = 0) : g = ⟨0, ⟨#[]⟩, false, ⟨#[]⟩, 6⟩ := h.2.2.2.2 (by omega) (by omega) (by omega) (by omega)

/-- Behind the last element there is none. -/
theorem nxp_end {es : List (Nat × Value)} {n : Nat} (h : es.length = n) : nxp es n = none := by
  unfold nxp
  rw [List.getElem?_eq_none (by omega)]
theorem front_nxp {es : List (Nat × Value)} {l : Nat} (h : 0 < es.length) : some (⟨nx l es 0, 0, none⟩ : Addr) = nxp es 0 := by
  unfold nx nxp
  rw [List.getElem?_eq_getElem h]

set_option maxRecDepth 100000 in
set_option maxHeartbeats 4000000 in
theorem PRODUCT_fn (al : List Arg) (l : Nat) (es : List (Nat × Value)) (f : Option Addr) (w : World) (hg : ∀ a ∈ al, a.good) (hf : al.all (fineA true) = true) (hp : (prodV (memA al)).kind = 1) (h0 : 0 < al.length) (hn : al.length ≤ 1000000) (hI : IListA w l al es) :
    Calls Tryz.prog 44 #[.pointer f, .pointer (some ⟨l, 0, none⟩)] w
      fun e w' => (∃ y, Sx y (prodV (memA al)).six ∧ e = .returned (.agg #[.string ⟨#[]⟩, .float .f64 y, .string ⟨#[]⟩, .slice none 0 0, .slice none 0 0, .bool false, .string ⟨#[]⟩, .int .u8 1, .pointer none, .pointer none])) ∧ Below w.heap.size w w' := by
  have hu80 := Tryz.underlying71
  have hta := assertArg
  have hlen : es.length = al.length := hI.len
  have HLen := Lib.hid hlen
  have HP := Lib.hid hp
  have HF := Lib.hid hf
  have HG := Lib.hid hg
  obtain ⟨w0, hw0⟩ : ∃ w0 : World, w0 = w.alloc (.cells #[.string ⟨#[]⟩, .float .f64 0, .string ⟨#[]⟩, .slice none 0 0, .slice none 0 0, .bool false, .string ⟨#[]⟩, .int .u8 0, .pointer none, .pointer none] 71) := ⟨_, rfl⟩
  have hb0 : Below w.heap.size w w0 := by rw [hw0]; exact (Below.refl _ _).alloc (Nat.le_refl _) _
  have k0 : w0.heap[w.heap.size]? = some (.cells #[.string ⟨#[]⟩, .float .f64 0, .string ⟨#[]⟩, .slice none 0 0, .slice none 0 0, .bool false, .string ⟨#[]⟩, .int .u8 0, .pointer none, .pointer none] 71) := by rw [hw0]; exact heap_new1 _ _
  have HW0 := Lib.hid hw0.symm
  have hI0 : IListA w0 l al es := hI.below (by rw [hw0]; exact (Below.refl _ _).alloc (Nat.le_refl _) _)
  have HI := Lib.hid hI0
  have HF2 : Hid (some (⟨nx l es 0, 0, none⟩ : Addr) = nxp es 0) := front_nxp (by omega)
  clear hI hI0 hlen hw0 hp hf hg
  go_enter Tryz.func44, Tryz.ntmps44
  go_wp2_with (go_at_call 63; rw [HW0.out]; refine (front_some _ HI.out.ring (by rw [HLen.out]; omega)).mono ?_; rintro e w1 ⟨rfl, rfl⟩)
  go_loopg [5, 6] al.length (fun gn p a wr => ∃ i : Nat, gn = al.length - i ∧ i ≤ al.length ∧ (∃ y, Sx y (prodV (memA (al.take i))).six ∧ p = .float .f64 y) ∧ a = .pointer (nxp es i) ∧ Below w0.heap.size w0 wr)
  case atStart => exact ⟨0, rfl, Nat.zero_le _, ⟨_, Sx.one, rfl⟩, by rw [← HF2.out], Below.refl _ _⟩
  case round =>
    obtain ⟨i, hgi, hi, ⟨y, hy, rfl⟩, rfl, hb⟩ := hrel
    have HGI := Lib.hid hgi
    have HY := Lib.hid hy
    clear hgi hy
    by_cases hlt : i < al.length
    · obtain ⟨a, hai⟩ : ∃ a, al[i]? = some a := ⟨_, List.getElem?_eq_getElem hlt⟩
      have hIr := HI.out.below hb
      obtain ⟨e, v, hv, hes, hcell⟩ := hIr.at_ i a hai
      have hmem := List.mem_of_getElem? hai
      have hnp : nxp es i = some ⟨e, 0, none⟩ := by unfold nxp; rw [hes]
      have KR := Lib.hid hIr.ring
      have KE := Lib.hid hes
      have KA := Lib.hid hai
      have KH : Hid (i < al.length) := hlt
      have hga := HG.out a hmem
      have hfa := List.all_eq_true.1 HF.out a hmem
      have HS := Lib.hid (memA_snoc al i a hai)
      have HPX := Lib.hid ((pfx_take al (i + 1)).kind HP.out)
      obtain ⟨ce, fe, ze⟩ := row_facts hcell
      rw [hnp]
      clear hIr hes hai hlt hnp hmem hcell
      cases a with
      | one x =>
        have h1 : x.kind = 1 := by simpa [fineA] using hfa
        obtain ⟨g, hgx, rfl⟩ := hv
        obtain ⟨z, hz, rfl⟩ := hgx.num1 h1
        have hown : numsA (.one x) = [x] := by simp [numsA, ownV, h1]
        have HS2 : Hid (memA (al.take (i + 1)) = memA (al.take i) ++ [x]) := by rw [Hid, HS.out, hown]
        obtain ⟨r, hr, hsr⟩ := mul_step HY.out hz hga (by rw [← HS2.out]; exact HPX.out)
        have hm : ∀ w, (binOp .mul 46 (.float .f64 y) (.float .f64 z)).run Tryz.prog w = .ok (.float .f64 r) w := fun w => run_float_arith w .mul _ .f64 _ _ _ hr
        have HR := Lib.hid hsr
        clear hgx hz h1 hr hsr hown hga hfa
        go_wp2_with (go_at_call 64; refine (next_any _ (KR.out.alloc _) i e _ KE.out).mono ?_; rintro e w1 ⟨rfl, rfl⟩)
        have hgi := HGI.out
        have hlt := KH.out
        go_roundg (al.length - (i + 1))
        case measure => omega
        case rel => exact ⟨i + 1, rfl, hlt, ⟨r, by rw [HS2.out]; exact HR.out, rfl⟩, rfl, hb.alloc hb.size _⟩
      | tbl rows =>
        obtain ⟨mv, p, q, hT, rfl⟩ := hv
        have HT := Lib.hid hT
        have HFA := Lib.hid hfa
        have HGA := Lib.hid hga
        obtain ⟨A, c, rfl, hAc⟩ := hT.len
        have hrl9 : rows.length ≤ 1000000 := hga.1
        clear hT hfa hga
        go_wp2_with fail
        obtain ⟨wo, hwo⟩ : ∃ wo : World, wo = wr := ⟨_, rfl⟩
        subst hwo
        have HB := Lib.hid hb
        have HYo := Lib.hid HY.out
        clear hb ce fe HY
        go_loopw [5, 49] (fun pv j wx => ∃ m : Nat, m ≤ rows.length ∧ j = .int .i64 m ∧ (∃ y, Sx y (prodV (memA (al.take i) ++ filt (rows.take m).flatten)).six ∧ pv = .float .f64 y) ∧ Below wo.heap.size wo wx) (fun _ j _ => rows.length - (intOf j).toNat)
        case atStart => exact ⟨0, Nat.zero_le _, rfl, ⟨y, by have := HYo.out; simpa [filt] using this, rfl⟩, (Below.refl _ _).alloc (Nat.le_refl _) _⟩
        case round =>
          obtain ⟨m, hm, rfl, ⟨y2, hy2, rfl⟩, hbx⟩ := hrel
          have HY2 := Lib.hid hy2
          clear hy2
          by_cases hmt : m < rows.length
          · obtain ⟨row, hrow⟩ : ∃ row, rows[m]? = some row := ⟨_, List.getElem?_eq_getElem hmt⟩
            obtain ⟨g3, o3, c3, r3, e9, _, hg3, hcell3, hR3⟩ := HT.out.at_ hrow
            injection e9 with e1 e2 e3
            subst e1
            clear e2 e3
            have p0 := (hbx.cell (p := ⟨g3, o3 + m, none⟩) hg3).trans hcell3
            obtain ⟨A6, c6, rfl, _⟩ := hR3.len
            have hrl8 : row.length ≤ 1000000 := HGA.out.2.1 row (List.mem_of_getElem? hrow)
            have HR3 := Lib.hid hR3
            have HRow := Lib.hid hrow
            have HM : Hid (m < rows.length) := hmt
            have HBX := Lib.hid hbx
            clear hcell3 hR3 hrow hbx
            go_wp2_with fail
            obtain ⟨wm, hwm⟩ : ∃ wm : World, wm = wr := ⟨_, rfl⟩
            subst hwm
            go_loopw [5, 55] (fun pv j wx => ∃ n : Nat, n ≤ row.length ∧ j = .int .i64 n ∧ (∃ y, Sx y (prodV (memA (al.take i) ++ filt (rows.take m).flatten ++ filt (row.take n))).six ∧ pv = .float .f64 y) ∧ Below wo.heap.size wo wx) (fun _ j _ => row.length - (intOf j).toNat)
            case atStart => exact ⟨0, Nat.zero_le _, rfl, ⟨y2, by have := HY2.out; simpa [filt] using this, rfl⟩, HBX.out⟩
            case round =>
              obtain ⟨n, hn9, rfl, ⟨y3, hy3, rfl⟩, hby⟩ := hrel
              have HY3 := Lib.hid hy3
              clear hy3 p0
              by_cases hnt : n < row.length
              · obtain ⟨x, hx⟩ : ∃ x, row[n]? = some x := ⟨_, List.getElem?_eq_getElem hnt⟩
                obtain ⟨g4, o4, c4, ga, e9, _, hg4, hin, hcell4⟩ := HR3.out.at_ hx
                injection e9 with e1 e2 e3
                subst e1
                clear e2 e3
                have q : ∀ k u, (GA.cells ga)[k]? = some u → wr.cell? ⟨g4, o4 + n * 10 + k, none⟩ = some u := fun k u hu => (hby.cell (p := ⟨g4, o4 + n * 10 + k, none⟩) hg4).trans (hcell4 k u hu)
                have q0 := q 0 _ rfl
                have q1 := q 1 _ rfl
                have q2 := q 2 _ rfl
                have q3 := q 3 _ rfl
                have q4 := q 4 _ rfl
                have q5 := q 5 _ rfl
                have q6 := q 6 _ rfl
                have q7 := q 7 _ rfl
                have q8 := q 8 _ rfl
                have q9 := q 9 _ rfl
                simp only [Nat.add_zero] at q0
                have HBY := Lib.hid hby
                have HN : Hid (n < row.length) := hnt
                have hxm : x ∈ rows.flatten := List.mem_flatten.2 ⟨row, List.mem_of_getElem? HRow.out, List.mem_of_getElem? hx⟩
                have hxk : x.kind = 1 ∨ x.kind = 0 := by
                  have h := List.all_eq_true.1 (show rows.flatten.all (fun v => inK (ksOf true) v.kind) = true from HFA.out) x hxm
                  simpa [inK, ksOf] using h
                have HFS := Lib.hid (filt_snoc row n x hx)
                have HPR := Lib.hid ((pfx_row (k := n + 1) KA.out HRow.out).kind HP.out)
                have hxo : x.ok := HGA.out.2.2 row (List.mem_of_getElem? HRow.out) x (List.mem_of_getElem? hx)
                clear q hcell4 hby hx hxm
                by_cases h1 : x.kind = 1
                · obtain ⟨z, hz, rfl⟩ := hin.num1 h1
                  have HFS2 : Hid (memA (al.take i) ++ filt (rows.take m).flatten ++ filt (row.take (n + 1)) = memA (al.take i) ++ filt (rows.take m).flatten ++ filt (row.take n) ++ [x]) := by
                    rw [Hid, HFS.out, if_pos h1]; simp only [List.append_assoc]
                  obtain ⟨r, hr, hsr⟩ := mul_step HY3.out hz hxo (by rw [← HFS2.out]; exact HPR.out)
                  have hm9 : ∀ w, (binOp .mul 46 (.float .f64 y3) (.float .f64 z)).run Tryz.prog w = .ok (.float .f64 r) w := fun w => run_float_arith w .mul _ .f64 _ _ _ hr
                  have HR := Lib.hid hsr
                  clear hin hz h1 hr hsr hxo hxk hnt hmt
                  go_wp2_with fail
                  have hnt := HN.out
                  go_roundw
                  case rel => exact ⟨n + 1, by omega, by go_num, ⟨r, by rw [HFS2.out]; exact HR.out, rfl⟩, HBY.out.alloc HBY.out.size _⟩
                  case measure => simp [intOf]; omega
                · have h0 : x.kind = 0 := by omega
                  obtain rfl := hin.type0 h0
                  have HFS2 : Hid (filt (row.take (n + 1)) = filt (row.take n)) := by rw [Hid, HFS.out, if_neg h1, List.append_nil]
                  clear hin h1 hxo hxk hnt hmt h0
                  go_wp2_with fail
                  have hnt := HN.out
                  go_roundw
                  case rel => exact ⟨n + 1, by omega, by go_num, ⟨y3, by rw [HFS2.out]; exact HY3.out, rfl⟩, HBY.out.alloc HBY.out.size _⟩
                  case measure => simp [intOf]; omega
              · obtain rfl : n = row.length := by omega
                have HBY := Lib.hid hby
                have HY4 : Hid (Sx y3 (prodV (memA (al.take i) ++ filt (rows.take (m + 1)).flatten)).six) := by
                  have h := HY3.out
                  rw [List.take_length, List.append_assoc, ← filt_append, ← flatten_take rows m row HRow.out] at h
                  exact h
                clear hby hnt hmt
                go_wp2_with fail
                have hmt := HM.out
                go_roundw
                case rel => exact ⟨m + 1, by omega, by go_num, ⟨y3, HY4.out, rfl⟩, HBY.out⟩
                case measure => simp [intOf]; omega
          · obtain rfl : m = rows.length := by omega
            have HBX := Lib.hid hbx
            have HY3 : Hid (Sx y2 (prodV (memA (al.take (i + 1)))).six) := by
              have h := HY2.out
              rw [List.take_length] at h
              rw [Hid, HS.out]
              exact h
            clear hbx hmt
            go_wp2_with (go_at_call 64; refine (next_any _ (KR.out.below HBX.out) i e _ KE.out).mono ?_; rintro e9 w1 ⟨rfl, rfl⟩)
            have hgi := HGI.out
            have hlt := KH.out
            go_roundg (al.length - (i + 1))
            case measure => omega
            case rel => exact ⟨i + 1, rfl, hlt, ⟨y2, HY3.out, rfl⟩, rfl, HB.out.trans (HBX.out.mono HB.out.size)⟩
    · obtain rfl : i = al.length := by omega
      have hnp := nxp_end (es := es) HLen.out
      rw [hnp]
      have HY2 : Hid (Sx y (prodV (memA al)).six) := by have := HY.out; rwa [List.take_length] at this
      clear hnp hlt
      obtain ⟨c0, f0, z0, k1⟩ := box_cells k0 hb
      go_wp2_with (go_at_call 66; refine (newNum_any y _ _ HY2.out).mono ?_; rintro e w2 ⟨z, hz, rfl, hb2⟩; obtain ⟨c2, f2, z2, k2⟩ := box_cells k1 hb2; have HZ := Lib.hid hz; clear c0 f0 hz)
      refine bodyPost_ret (v := .agg #[.string ⟨#[]⟩, .float .f64 z, .string ⟨#[]⟩, .slice none 0 0, .slice none 0 0, .bool false, .string ⟨#[]⟩, .int .u8 1, .pointer none, .pointer none]) (by simp [results, Tryz.results44, go_sem, c2]) rfl ⟨⟨z, HZ.out, rfl⟩, ?_⟩
      have pb := hb0.trans ((hb.trans (hb2.mono hb.size)).mono hb0.size)
      clear c2 f2
      (repeat refine below_set0 ?_ _ _)
      exact pb

end Go.Proofs.YtkglbccdiofnkaaGreatDoor
