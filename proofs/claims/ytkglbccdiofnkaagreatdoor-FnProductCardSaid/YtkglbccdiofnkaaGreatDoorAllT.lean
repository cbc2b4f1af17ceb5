/-
Values of the reference turned into those of the program, at tables: 'of', 'all'.
-/
import Derived.Test.YtkglbccdiofnkaaGreatDoorInT
import Derived.Test.YtkglbccdiofnkaaGreatDoorStep
import Derived.Outline
namespace Go.Proofs.YtkglbccdiofnkaaGreatDoor
open Go.RowKit Go.Fl

theorem rowInfo : (Tryz.prog.info? 50).map (fun i => (i.zero, i.size, i.bytes)) = some (some (.slice none 0 0), 1, 24) := by kernel_rfl

set_option maxRecDepth 100000 in
set_option maxHeartbeats 4000000 in
theorem of_tbl (rows : List (List FV)) (rv : Value) (w : World) (hT : TRow w w.heap.size rv rows) (hg : (Arg.tbl rows).good) :
    Calls Tryz.prog 41 #[.agg #[.int .i64 5, .int .i64 0, .int .i64 0, .string ⟨#[]⟩, rv]] w
      fun e w' => (∃ rv', e = .returned (.agg #[.int .i64 5, .float .f64 0, .string ⟨#[]⟩, rv']) ∧ RRowS 4 FV.ilist w' (New w.heap.size w') rv' rows) ∧ Below w.heap.size w w' := by
  have hu26 := Tryz.underlying31
  have hu53 := Tryz.underlying49
  obtain ⟨A, c, rfl⟩ : ∃ A c, rv = .slice A rows.length c := by
    obtain ⟨A, c, h, _⟩ := hT.len
    exact ⟨A, c, h⟩
  have HT := Lib.hid hT.s
  have HG := Lib.hid hg
  have hn6 := hg.1
  obtain ⟨W0, hW0⟩ : ∃ W0 : World, W0 = ((w.alloc (.cells #[.int .i64 5, .int .i64 0, .int .i64 0, .string ⟨#[]⟩, .slice A rows.length c] 31)).alloc (.cells #[.int .i64 0, .float .f64 0, .string ⟨#[]⟩, .slice none 0 0] 49)).alloc (.cells #[.int .i64 5, .float .f64 0, .string ⟨#[]⟩, .slice none 0 0] 49) := ⟨_, rfl⟩
  have hz0 : W0.heap.size = w.heap.size + 3 := by rw [hW0]; simp
  have kp : W0.heap[w.heap.size]? = some (.cells #[.int .i64 5, .int .i64 0, .int .i64 0, .string ⟨#[]⟩, .slice A rows.length c] 31) := by rw [hW0]; exact heap_new3a _ _ _ _
  have ko : W0.heap[w.heap.size + 1 + 1]? = some (.cells #[.int .i64 5, .float .f64 0, .string ⟨#[]⟩, .slice none 0 0] 49) := by rw [hW0]; exact heap_new3c _ _ _ _
  have kr : W0.heap[w.heap.size + 1]? = some (.cells #[.int .i64 0, .float .f64 0, .string ⟨#[]⟩, .slice none 0 0] 49) := by rw [hW0]; exact heap_new3b _ _ _ _
  have pb0 : Below w.heap.size w W0 := by rw [hW0]; exact (((Below.refl _ _).alloc (Nat.le_refl _) _).alloc (by simp) _).alloc (by simp; omega) _
  have HW0 := Lib.hid hW0.symm
  have HZ0 := Lib.hid hz0
  have KP := Lib.hid kp
  have KO := Lib.hid ko
  have KR := Lib.hid kr
  clear hT hg hW0 hz0 kp ko kr
  go_enter Tryz.func41, Tryz.ntmps41
  go_wp2
  go_loopw [4] (fun i wr => ∃ (k : Nat) (s : Value), k ≤ rows.length ∧ i = .int .i64 k ∧ wr.heap[w.heap.size + 1 + 1]? = some (.cells #[.int .i64 5, .float .f64 0, .string ⟨#[]⟩, s] 49) ∧ wr.heap[w.heap.size + 1]? = some (.cells #[.int .i64 0, .float .f64 0, .string ⟨#[]⟩, .slice none 0 0] 49) ∧ wr.heap[w.heap.size]? = some (.cells #[.int .i64 5, .int .i64 0, .int .i64 0, .string ⟨#[]⟩, .slice A rows.length c] 31) ∧
    OwnR wr (w.heap.size + 3) 50 4 FV.ilist s (rows.take k) ∧ Below w.heap.size w wr ∧ w.heap.size + 3 ≤ wr.heap.size) (fun i _ => rows.length - (intOf i).toNat)
  case atStart =>
    rw [HW0.out]
    exact ⟨0, _, Nat.zero_le _, rfl, KO.out, KR.out, KP.out, OwnR.nil_ _ _ _ _ _, pb0, by rw [HZ0.out]; exact Nat.le_refl _⟩
  case round =>
    obtain ⟨k, s, hk, rfl, kor, krr, kpr, hown, hb, hsz⟩ := hrel
    obtain ⟨cr, fr, zr⟩ := row_facts krr
    obtain ⟨rs, hrs1, hrs2, hrs3⟩ := hown
    obtain ⟨A5, c5, hs5, hc5⟩ := hrs1.len
    rw [List.length_map, hrs2, List.length_take, Nat.min_eq_left hk] at hs5
    subst hs5
    obtain ⟨co, fo, zo⟩ := row_facts kor
    obtain ⟨cp, fp, zp⟩ := row_facts kpr
    by_cases hlt : k < rows.length
    · obtain ⟨row, hrow⟩ : ∃ row, rows[k]? = some row := ⟨_, List.getElem?_eq_getElem hlt⟩
      obtain ⟨g, o, c', r, e, _, hgw, hcell, hR⟩ := HT.out.at_ hrow
      injection e with e1 e2 e3
      subst e1
      clear e2 e3
      have q0 := (hb.cell (p := ⟨g, o + k, none⟩) hgw).trans hcell
      obtain ⟨A2, c2, rfl⟩ : ∃ A2 c2, r = .slice A2 row.length c2 := by
        obtain ⟨A, c, h, _⟩ := hR.len
        exact ⟨A, c, by rw [List.length_map] at h; exact h⟩
      have HR : Hid (Row wr wr.heap.size 5 (.slice A2 row.length c2) (row.map FV.list)) := ((hR.row fun _ h => h).below hb).more hb.size
      have HB := Lib.hid hb
      have KOR := Lib.hid kor
      have KPR := Lib.hid kpr
      have KRR := Lib.hid krr
      clear cr fr
      have HTk := Lib.hid (take_snoc rows k row hrow)
      have HK : Hid (k < rows.length) := hlt
      have hm := List.mem_of_getElem? hrow
      have HOK := Lib.hid (HG.out.2.2 row hm)
      have HL := Lib.hid (HG.out.2.1 row hm)
      clear hrow hR hb kor kpr krr hm hcell
      go_wp2
      go_region_law (first
        | (go_simp; go_at_call 27; refine (all_own row _ _ ?_ HOK.out HL.out).mono ?_; exact HR.out; rintro e w1 ⟨v1, rfl, hown1, hb1⟩; obtain ⟨A6, c6, hv6, _⟩ := hown1.len; rw [List.length_map] at hv6; subst hv6; have hb1 := Below.ofDrew hb1; obtain ⟨co1, fo1, zo1, ko1⟩ := box_cells KOR.out hb1)
        | (refine step_app_one (w.heap.size + 3) (by rfl) (.tmp 38) (.tmp 45) 47 50 _ 1 24 (by rfl) Tryz.underlying47 rowInfo rfl (by omega) (by omega) (.slice A5 k c5) (rs.map fun r => [r]) [.slice A6 row.length c6] (by rfl) (by rfl) rfl (by simp [Value.oneCell']) rfl (hrs1.below hb1) (Nat.le_trans hsz hb1.size) (by rw [List.length_map, hrs2, List.length_take]; omega) ?_; intro g cap w2 hown2 hb2 hg2 hat2; obtain ⟨co2, fo2, zo2⟩ := row_facts (box_kept ko1 (by omega) hb2); clear co1 fo1))
      all_goals go_wp2
      all_goals
        have hlt := HK.out
        have hb := HB.out
        have hlk : (rs.map fun r => [r]).length = k := by rw [List.length_map, hrs2, List.length_take]; omega
        rw [hlk] at hown2 hat2
        have ko2 := box_kept ko1 (by omega) hb2
        have kr2 := box_kept (box_cells KRR.out hb1).2.2.2 (by omega) hb2
        have kp2 := box_kept (box_cells KPR.out hb1).2.2.2 (by omega) hb2
        refine ⟨⟨k + 1, .slice (some ⟨g, 0, none⟩) (k + 1) cap, by omega, by go_num, ?_, ?_, ?_, ?_, ?_, ?_⟩, ?_⟩
        · exact (heap_set_same (j := 3) ko2 _).trans (by simp)
        · exact (heap_set_far (by omega) _).trans kr2
        · exact (heap_set_far (by omega) _).trans kp2
        · rw [HTk.out]
          refine OwnR.box ?_ (by show w.heap.size + 1 + 1 < w.heap.size + 3; omega) _
          refine OwnR.snoc (w := w1) (v := .slice A5 k c5) (rs := rs) hown2 hrs2 (fun i row r hrow hr => ((hrs3 i row r hrow hr).keep fun b h => hb1.block b h.2.1).mono fun b h => ⟨h.1, Nat.lt_of_lt_of_le h.2.1 hb1.size, h.2.2⟩) ?_ hg2 hat2
          exact hown1.rowS.mono (off_new hrs1 hsz)
        · exact ((hb.trans (hb1.mono hb.size)).trans (hb2.mono (by omega))).setCell (p := ⟨w.heap.size + 1 + 1, 3, none⟩) (by show w.heap.size ≤ w.heap.size + 1 + 1; omega) _
        · have := hb1.size
          have := hb2.size
          simp only [World.setCell, Array.size_modify]
          omega
        · simp [intOf]; omega
    · obtain rfl : k = rows.length := by omega
      rw [List.take_length] at hrs2 hrs3
      have hown : OwnR wr (w.heap.size + 3) 50 4 FV.ilist (.slice A5 rows.length c5) rows := ⟨rs, hrs1, hrs2, hrs3⟩
      go_wp2
      refine bodyPost_ret (v := .agg #[.int .i64 5, .float .f64 0, .string ⟨#[]⟩, .slice A5 rows.length c5]) (by simp [results, Tryz.results41, go_sem, cr]) rfl ⟨⟨_, rfl, ?_⟩, ?_⟩
      · have hr := hown.rrow
        refine ((hr.keep fun b h => ?_).mono fun b h => ⟨by have := h.1; omega, by simpa [World.setCell] using h.2⟩)
        have := h.1
        (repeat rw [heap_set_far (by omega)])
      · clear cr fr
        (repeat refine below_set1 ?_ _ _)
        exact hb

set_option maxRecDepth 100000 in
set_option maxHeartbeats 2000000 in
theorem all_args (al : List Arg) (v : Value) (w : World) (hr : ARow w w.heap.size v al) (hg : ∀ a ∈ al, a.good) (hn : al.length ≤ 1000000) :
    Calls Tryz.prog 27 #[v] w fun e w' => ∃ v', e = .returned v' ∧ IRow w' w'.heap.size v' al ∧ Below w.heap.size w w' := by
  obtain ⟨A, c, rfl⟩ : ∃ A c, v = .slice A al.length c := by
    obtain ⟨A, c, h, _⟩ := hr.len
    exact ⟨A, c, h⟩
  have hu26 := Tryz.underlying31
  have HR := Lib.hid hr
  have HG := Lib.hid hg
  clear hr hg
  go_enter Tryz.func27, Tryz.ntmps27
  go_wp2
  go_loopw [3, 4] (fun s i wr => ∃ k : Nat, k ≤ al.length ∧ i = .int .i64 k ∧ OwnI wr w.heap.size 49 s (al.take k) ∧ Below w.heap.size w wr) (fun _ i _ => al.length - (intOf i).toNat)
  case atStart => exact ⟨0, Nat.zero_le _, rfl, OwnI.nil_ _ _ _, Below.refl _ _⟩
  case round =>
    obtain ⟨k, hk1, rfl, hown, hb⟩ := hrel
    by_cases hlt : k < al.length
    · obtain ⟨a, hak⟩ : ∃ a, al[k]? = some a := ⟨_, List.getElem?_eq_getElem hlt⟩
      obtain ⟨g, o, c', x, e, _, hgw, hx, hcell⟩ := HR.out.at_ hak
      injection e with e1 e2 e3
      subst e1
      clear e2 e3
      have hga := HG.out a (List.mem_of_getElem? hak)
      have HTk := Lib.hid (take_snoc al k a hak)
      have HK : Hid (k < al.length) := hlt
      have HB := Lib.hid hb
      obtain ⟨cs, hc1, hc2, hc3⟩ := hown
      have hcl : cs.length = k := by rw [hc2, List.length_take]; omega
      have HCL := Lib.hid hcl
      have HC1 := Lib.hid hc1
      have HC2 := Lib.hid hc2
      have HC3 := Lib.hid hc3
      cases a with
      | one f =>
        have hxf : x = FV.list f := hx
        subst hxf
        have hok : f.ok := hga
        have q : ∀ j u, (FV.list f)[j]? = some u → wr.cell? ⟨g, o + k * 5 + j, none⟩ = some u := fun j u hu => (hb.cell (p := ⟨g, o + k * 5 + j, none⟩) hgw).trans (hcell j u hu)
        have q0 := q 0 _ rfl
        have q1 := q 1 _ rfl
        have q2 := q 2 _ rfl
        have q3 := q 3 _ rfl
        have q4 := q 4 _ rfl
        simp only [Nat.add_zero] at q0
        clear q hak hcell hc1 hc2 hc3 hcl hx hga hb
        go_wp2_with (first
          | (go_at_call 41; refine (of_one f _ hok).mono ?_; rintro e w1 ⟨rfl, hb1⟩)
          | (at_builtin; refine app_off (w0 := w) w.heap.size rfl (.tmp 11) (.tmp 17) 50 49 _ 4 56 rfl Tryz.underlying50 ivalInfo rfl (by omega) (by omega) _ _ (FV.ilist f) rfl rfl rfl (by simp [FV.ilist, Value.oneCell']) (by simp) (HC1.out.below hb1) (HB.out.trans (hb1.mono HB.out.size)) (Nat.le_trans HB.out.size hb1.size) (len_mil56 HCL.out (by omega)) ?_; intro v2 w2 hown2 hb2 _ hg2 hat2))
        have hlt := HK.out
        go_roundw
        case rel => exact ⟨k + 1, by omega, by go_num, by rw [HTk.out]; exact OwnI.snoc (w := w1) hown2 HC2.out (fun i a c ha hc => ((HC3.out i a c ha hc).keep fun b h => hb1.block b h.2.1).mono fun b h => ⟨h.1, Nat.lt_of_lt_of_le h.2.1 hb1.size, h.2.2⟩) rfl hg2 hat2, hb2⟩
        case measure => simp [intOf]; omega
      | tbl rows =>
        obtain ⟨rv, rfl, hT⟩ := hx
        obtain ⟨A2, c2, rfl, _⟩ := hT.len
        have q : ∀ j u, [Value.int .i64 5, .int .i64 0, .int .i64 0, .string ⟨#[]⟩, .slice A2 rows.length c2][j]? = some u → wr.cell? ⟨g, o + k * 5 + j, none⟩ = some u := fun j u hu => (hb.cell (p := ⟨g, o + k * 5 + j, none⟩) hgw).trans (hcell j u hu)
        have q0 := q 0 _ rfl
        have q1 := q 1 _ rfl
        have q2 := q 2 _ rfl
        have q3 := q 3 _ rfl
        have q4 := q 4 _ rfl
        simp only [Nat.add_zero] at q0
        have HT : Hid (TRow wr wr.heap.size (.slice A2 rows.length c2) rows) := (hT.below hb).more hb.size
        have HGA := Lib.hid hga
        clear q hak hcell hc1 hc2 hc3 hcl hT hga hb
        go_wp2_with (first
          | (go_at_call 41; refine (of_tbl rows _ _ HT.out HGA.out).mono ?_; rintro e w1 ⟨⟨rv', rfl, hRR⟩, hb1⟩; obtain ⟨A3, c3, hv3, _⟩ := hRR.len; subst hv3; have HRR := Lib.hid hRR; clear hRR)
          | (at_builtin; refine app_off (w0 := w) w.heap.size rfl (.tmp 11) (.tmp 17) 50 49 _ 4 56 rfl Tryz.underlying50 ivalInfo rfl (by omega) (by omega) _ _ [.int .i64 5, .float .f64 0, .string ⟨#[]⟩, .slice A3 rows.length c3] rfl rfl rfl (by simp [Value.oneCell']) (by simp) (HC1.out.below hb1) (HB.out.trans (hb1.mono HB.out.size)) (Nat.le_trans HB.out.size hb1.size) (len_mil56 HCL.out (by omega)) ?_; intro v2 w2 hown2 hb2 _ hg2 hat2))
        have hlt := HK.out
        go_roundw
        case rel => exact ⟨k + 1, by omega, by go_num, by rw [HTk.out]; exact OwnI.snoc (w := w1) hown2 HC2.out (fun i a c ha hc => ((HC3.out i a c ha hc).keep fun b h => hb1.block b h.2.1).mono fun b h => ⟨h.1, Nat.lt_of_lt_of_le h.2.1 hb1.size, h.2.2⟩) ⟨_, rfl, HRR.out.mono (off_new HC1.out HB.out.size)⟩ hg2 hat2, hb2⟩
        case measure => simp [intOf]; omega
    · obtain rfl : k = al.length := by omega
      rw [List.take_length] at hown
      obtain ⟨A9, c9, hs9, _⟩ := hown.irow.len
      subst hs9
      go_wp2
      go_ret
      exact ⟨_, rfl, hown.irow, hb⟩

end Go.Proofs.YtkglbccdiofnkaaGreatDoor
