/-
Values of the program turned into those of the package, at tables: 'in'.
-/
import Derived.Test.YtkglbccdiofnkaaGreatDoorOwns
import Derived.Test.YtkglbccdiofnkaaGreatDoorStep
namespace Go.Proofs.YtkglbccdiofnkaaGreatDoor
open Go.RowKit Go.Fl

theorem argRowInfo : (Tryz.prog.info? 57).map (fun i => (i.zero, i.size, i.bytes)) = some (some (.slice none 0 0), 1, 24) := by kernel_rfl
theorem len_mil {n k : Nat} (h : n = k) (h2 : k ≤ 1000000) : (n + 1) * 64 ≤ 140737488355328 := by omega
theorem len_mil' {n k : Nat} (h : n = k) (h2 : k ≤ 1000000) : (n + 1) * 24 ≤ 140737488355328 := by omega
theorem len_mil56 {n k : Nat} (h : n = k) (h2 : k ≤ 1000000) : (n + 1) * 56 ≤ 140737488355328 := by omega

set_option maxRecDepth 100000 in
set_option maxHeartbeats 4000000 in
theorem in_args (al : List Arg) (v : Value) (w : World) (hr : IRow w w.heap.size v al) (hg : ∀ a ∈ al, a.good) (hn : al.length ≤ 1000000) :
    Calls Tryz.prog 30 #[v] w fun e w' => ∃ v', e = .returned v' ∧ IRow w' w'.heap.size v' al ∧ Below w.heap.size w w' := by
  have hu53 := Tryz.underlying49
  have hu59 := Tryz.underlying55
  obtain ⟨A, c, rfl⟩ : ∃ A c, v = .slice A al.length c := by
    obtain ⟨A, c, h, _⟩ := hr.len
    exact ⟨A, c, h⟩
  have HR := Lib.hid hr
  have HG := Lib.hid hg
  clear hr hg
  go_enter Tryz.func30, Tryz.ntmps30
  go_wp2
  go_loopw [3, 11] (fun s i wr => ∃ k : Nat, k ≤ al.length ∧ i = .int .i64 k ∧ OwnI wr w.heap.size 55 s (al.take k) ∧ Below w.heap.size w wr) (fun _ i _ => al.length - (intOf i).toNat)
  case atStart => exact ⟨0, Nat.zero_le _, rfl, OwnI.nil_ _ _ _, Below.refl _ _⟩
  case round =>
    obtain ⟨k, hk1, rfl, hown, hb⟩ := hrel
    by_cases hlt : k < al.length
    · obtain ⟨a, hak⟩ : ∃ a, al[k]? = some a := ⟨_, List.getElem?_eq_getElem hlt⟩
      obtain ⟨g, o, c', x, e, _, hgw, hx, hcell⟩ := HR.out.at_ hak
      injection e with e1 e2 e3
      subst e1
      clear e2 e3
      have hga := HG.out a (List.mem_of_getElem? hak)
      obtain ⟨kd, nm, tx, A2, cp, rows, rfl, hT, hrg, hback⟩ := (hx.keep (w' := wr) fun b h => hb.block b h).parts hga
      have q : ∀ j u, [Value.int .i64 kd, .float .f64 nm, .string tx, .slice A2 rows.length cp][j]? = some u → wr.cell? ⟨g, o + k * 4 + j, none⟩ = some u := fun j u hu => (hb.cell (p := ⟨g, o + k * 4 + j, none⟩) hgw).trans (hcell j u hu)
      have q0 := q 0 _ rfl
      have q1 := q 1 _ rfl
      have q2 := q 2 _ rfl
      have q3 := q 3 _ rfl
      simp only [Nat.add_zero] at q0
      have HTk := Lib.hid (take_snoc al k a hak)
      have HK : Hid (k < al.length) := hlt
      have HO := Lib.hid hown
      have HB := Lib.hid hb
      have HBK := Lib.hid hback
      have HRG := Lib.hid hrg
      have HT : Hid (RRowS 4 FV.ilist wr (· < wr.heap.size) (.slice A2 rows.length cp) rows) := hT.mono fun b h => Nat.lt_of_lt_of_le h hb.size
      have hn6 := hrg.1
      obtain ⟨wo, rfl⟩ : ∃ wo : World, wo = wr := ⟨_, rfl⟩
      obtain ⟨W1, hW1⟩ : ∃ W1 : World, W1 = (wo.alloc (.cells #[.int .i64 kd, .float .f64 nm, .string tx, .slice A2 rows.length cp] 49)).alloc (.cells #[.int .i64 kd, .float .f64 nm, .string tx, .slice none 0 0] 55) := ⟨_, rfl⟩
      have kb : W1.heap[wo.heap.size + 1]? = some (.cells #[.int .i64 kd, .float .f64 nm, .string tx, .slice none 0 0] 55) := by rw [hW1]; exact heap_new2b _ _ _
      have pb1 : Below wo.heap.size wo W1 := by rw [hW1]; exact ((Below.refl _ _).alloc (Nat.le_refl _) _).alloc (by simp) _
      have hz1 : W1.heap.size = wo.heap.size + 2 := by rw [hW1]; simp
      have HW1 := Lib.hid hW1.symm
      have KB := Lib.hid kb
      have PB1 := Lib.hid pb1
      have HZ1 := Lib.hid hz1
      clear hak hcell hown hb q hx hback hrg hT hga hW1 kb pb1 hz1
      go_wp2
      go_loopw [25] (fun i wx => ∃ (j : Nat) (s : Value), j ≤ rows.length ∧ i = .int .i64 j ∧ (j = 0 → s = .slice none 0 0) ∧ wx.heap[wo.heap.size + 1]? = some (.cells #[.int .i64 kd, .float .f64 nm, .string tx, s] 55) ∧
        OwnR wx (wo.heap.size + 2) 57 4 FV.ilist s (rows.take j) ∧ Below wo.heap.size wo wx ∧ wo.heap.size + 2 ≤ wx.heap.size) (fun i _ => rows.length - (intOf i).toNat)
      case atStart =>
        rw [HW1.out]
        exact ⟨0, _, Nat.zero_le _, rfl, fun _ => rfl, KB.out, OwnR.nil_ _ _ _ _ _, PB1.out, by rw [HZ1.out]; exact Nat.le_refl _⟩
      case round =>
        obtain ⟨j, s, hj, rfl, hs0, kx, hown, hbx, hsz⟩ := hrel
        obtain ⟨cx, fx, zx⟩ := row_facts kx
        obtain ⟨rs, hrs1, hrs2, hrs3⟩ := hown
        obtain ⟨A5, c5, hs5, _⟩ := hrs1.len
        rw [List.length_map, hrs2, List.length_take, Nat.min_eq_left hj] at hs5
        subst hs5
        by_cases hjt : j < rows.length
        · obtain ⟨row, hrow⟩ : ∃ row, rows[j]? = some row := ⟨_, List.getElem?_eq_getElem hjt⟩
          obtain ⟨g3, o3, c3, r, e, _, hg3, hcell3, hR3⟩ := HT.out.at_ hrow
          injection e with e1 e2 e3
          subst e1
          clear e2 e3
          have p0 := (hbx.cell (p := ⟨g3, o3 + j, none⟩) hg3).trans hcell3
          obtain ⟨A6, c6, rfl⟩ : ∃ A6 c6, r = .slice A6 row.length c6 := by
            obtain ⟨A, c, h, _⟩ := hR3.len
            exact ⟨A, c, by rw [List.length_map] at h; exact h⟩
          have HRow : Hid (Row wr wr.heap.size 4 (.slice A6 row.length c6) ((row.map FV.pv).map PV.list)) := by
            have := ((hR3.row (B := wo.heap.size) fun _ h => h).below hbx).more hbx.size
            rw [Hid, List.map_map]
            exact this
          have hm := List.mem_of_getElem? hrow
          have HL : Hid ((row.map FV.pv).length ≤ 1000000) := by rw [Hid, List.length_map]; exact HRG.out.2.1 row hm
          have HTj := Lib.hid (take_snoc rows j row hrow)
          have HJ : Hid (j < rows.length) := hjt
          have HBX := Lib.hid hbx
          have KX := Lib.hid kx
          clear hrow hR3 hcell3 hm hbx kx hs0
          go_wp2
          go_region_law (first
            | (go_simp; go_at_call 30; refine (in_own (row.map FV.pv) _ _ ?_ HL.out).mono ?_; exact HRow.out; rintro e w1 ⟨v1, rfl, hown1, hb1⟩; obtain ⟨A7, c7, hv7, _⟩ := hown1.len; rw [List.length_map, List.length_map] at hv7; subst hv7; have hb1 := Below.ofDrew hb1; obtain ⟨cy, fy, zy, ky⟩ := box_cells KX.out hb1)
            | (refine step_app_one (wo.heap.size + 2) (by rfl) (.tmp 30) (.tmp 33) 53 57 _ 1 24 (by rfl) Tryz.underlying53 argRowInfo rfl (by omega) (by omega) (.slice A5 j c5) (rs.map fun r => [r]) [.slice A7 row.length c7] (by rfl) (by rfl) rfl (by simp [Value.oneCell']) rfl (hrs1.below hb1) (Nat.le_trans hsz hb1.size) (by rw [List.length_map, hrs2, List.length_take]; omega) ?_; intro g cap w2 hown2 hb2 hg2 hat2; obtain ⟨cz, fz, zz⟩ := row_facts (box_kept ky (by omega) hb2); clear cy fy))
          all_goals go_wp2
          all_goals
            have hjt := HJ.out
            have hbx := HBX.out
            have hlk : (rs.map fun r => [r]).length = j := by rw [List.length_map, hrs2, List.length_take]; omega
            rw [hlk] at hown2 hat2
            have kx2 := box_kept ky (by omega) hb2
            refine ⟨⟨j + 1, .slice (some ⟨g, 0, none⟩) (j + 1) cap, by omega, by go_num, fun h => by omega, ?_, ?_, ?_, ?_⟩, ?_⟩
            · exact (heap_set_same (j := 3) kx2 _).trans (by simp)
            · rw [HTj.out]
              refine OwnR.box ?_ (by show wo.heap.size + 1 < wo.heap.size + 2; omega) _
              refine OwnR.snoc (w := w1) (v := .slice A5 j c5) (rs := rs) hown2 hrs2 (fun i row r hrow hr => ((hrs3 i row r hrow hr).keep fun b h => hb1.block b h.2.1).mono fun b h => ⟨h.1, Nat.lt_of_lt_of_le h.2.1 hb1.size, h.2.2⟩) ?_ hg2 hat2
              have e : row.map FV.ilist = (row.map FV.pv).map PV.list := by rw [List.map_map]; rfl
              rw [e]
              exact hown1.rowS.mono (off_new hrs1 hsz)
            · exact ((hbx.trans (hb1.mono hbx.size)).trans (hb2.mono (by omega))).setCell (p := ⟨wo.heap.size + 1, 3, none⟩) (by show wo.heap.size ≤ wo.heap.size + 1; omega) _
            · have := hb1.size
              have := hb2.size
              simp only [World.setCell, Array.size_modify]
              omega
            · simp [intOf]; omega
        · obtain rfl : j = rows.length := by omega
          rw [List.take_length] at hrs2 hrs3
          have hown : OwnR wr (wo.heap.size + 2) 57 4 FV.ilist (.slice A5 rows.length c5) rows := ⟨rs, hrs1, hrs2, hrs3⟩
          obtain ⟨cs, hc1, hc2, hc3⟩ := HO.out
          have HNew := Lib.hid (HBK.out wr (Off w.heap.size wr u3) (.slice A5 rows.length c5) (hown.rrow.mono fun b h => off_new hc1 HB.out.size b ⟨by have := h.1; omega, h.2⟩) hs0)
          have HC1 := Lib.hid (hc1.below hbx)
          have HC2 := Lib.hid hc2
          have HC3 := Lib.hid hc3
          have HBX := Lib.hid hbx
          have hcl : cs.length = k := by rw [hc2, List.length_take]; omega
          have HCL := Lib.hid hcl
          clear hown hc1 hc2 hc3 hbx hcl hrs1 hrs2 hrs3 hj hjt kx hs0
          go_wp2_with (at_builtin; refine app_off (w0 := w) w.heap.size rfl (.tmp 37) (.tmp 39) 57 55 _ 4 56 rfl Tryz.underlying57 argInfo rfl (by omega) (by omega) _ _ [.int .i64 kd, .float .f64 nm, .string tx, .slice A5 rows.length c5] rfl rfl rfl (by simp [Value.oneCell']) (by simp) HC1.out (HB.out.trans (HBX.out.mono HB.out.size)) (Nat.le_trans HB.out.size HBX.out.size) (len_mil56 HCL.out (by omega)) ?_; intro v2 w2 hown2 hb2 _ hg2 hat2)
          have hlt := HK.out
          go_roundw
          case rel => exact ⟨k + 1, by omega, by go_num, by rw [HTk.out]; exact OwnI.snoc (w := wr) hown2 HC2.out (fun i a c ha hc => ((HC3.out i a c ha hc).keep fun b h => HBX.out.block b h.2.1).mono fun b h => ⟨h.1, Nat.lt_of_lt_of_le h.2.1 HBX.out.size, h.2.2⟩) HNew.out hg2 hat2, hb2⟩
          case measure => simp [intOf]; omega
    · obtain rfl : k = al.length := by omega
      rw [List.take_length] at hown
      obtain ⟨A9, c9, hs9, _⟩ := hown.irow.len
      subst hs9
      go_wp2
      go_ret
      exact ⟨_, rfl, hown.irow, hb⟩

end Go.Proofs.YtkglbccdiofnkaaGreatDoor
