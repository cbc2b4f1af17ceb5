/-
The package's values made of plain ones, and the list of them, at tables: 'innerArg', 'innerList'.
-/
import Derived.Test.YtkglbccdiofnkaaGreatDoorTabG
import Derived.Test.YtkglbccdiofnkaaGreatDoorStep
import Derived.Deep.RegionHeld3
import Derived.Outline
namespace Go.Proofs.YtkglbccdiofnkaaGreatDoor
open Go.RowKit Go.Fl

theorem faInfo : (Tryz.prog.info? 71).map (fun i => (i.zero, i.size, i.bytes)) = some (some (.agg #[.string ⟨#[]⟩, .float .f64 0, .string ⟨#[]⟩, .slice none 0 0, .slice none 0 0, .bool false, .string ⟨#[]⟩, .int .u8 0, .pointer none, .pointer none]), 10, 136) := by kernel_rfl
theorem faRowInfo : (Tryz.prog.info? 66).map (fun i => (i.zero, i.size, i.bytes)) = some (some (.slice none 0 0), 1, 24) := by kernel_rfl

theorem newMatrix_any (A : Option Addr) (n c : Nat) (w : World) :
    Calls Tryz.prog 72 #[.slice A n c] w fun e w' => e = .returned (.agg #[.string ⟨#[]⟩, .float .f64 0, .string ⟨#[]⟩, .slice none 0 0, .slice A n c, .bool false, .string ⟨#[]⟩, .int .u8 4, .pointer none, .pointer none]) ∧ Below w.heap.size w w' := by
  go_enter Tryz.func72, Tryz.ntmps72
  go_wp2
  exact bodyPost_ret (v := .agg #[.string ⟨#[]⟩, .float .f64 0, .string ⟨#[]⟩, .slice none 0 0, .slice A n c, .bool false, .string ⟨#[]⟩, .int .u8 4, .pointer none, .pointer none]) (by simp [results, Tryz.results72, go_sem]) rfl ⟨rfl, (Below.refl _ _).alloc (Nat.le_refl _) _⟩

set_option maxRecDepth 100000 in
set_option maxHeartbeats 4000000 in
theorem innerArg_tbl (rows : List (List FV)) (rv : Value) (w : World) (hT : RRowS 4 FV.ilist w (· < w.heap.size) rv rows) (hg : (Arg.tbl rows).good) (h0 : 0 < rows.length) :
    Calls Tryz.prog 69 #[.agg #[.int .i64 5, .float .f64 0, .string ⟨#[]⟩, rv]] w
      fun e w' => (∃ mv p q, GTab w' (New w.heap.size w') mv rows ∧ e = .returned (.agg #[.string ⟨#[]⟩, .float .f64 0, .string ⟨#[]⟩, .slice none 0 0, mv, .bool false, .string ⟨#[]⟩, .int .u8 4, .pointer p, .pointer q])) ∧ Below w.heap.size w w' := by
  have hu59 := Tryz.underlying55
  have hu80 := Tryz.underlying71
  obtain ⟨A, c, rfl⟩ : ∃ A c, rv = .slice A rows.length c := by
    obtain ⟨A, c, h, _⟩ := hT.len
    exact ⟨A, c, h⟩
  have HT := Lib.hid hT
  have HG := Lib.hid hg
  have hn6 := hg.1
  obtain ⟨W0, hW0⟩ : ∃ W0 : World, W0 = (w.alloc (.cells #[.int .i64 5, .float .f64 0, .string ⟨#[]⟩, .slice A rows.length c] 55)).alloc (.cells #[.string ⟨#[]⟩, .float .f64 0, .string ⟨#[]⟩, .slice none 0 0, .slice none 0 0, .bool false, .string ⟨#[]⟩, .int .u8 0, .pointer none, .pointer none] 71) := ⟨_, rfl⟩
  have kp : W0.heap[w.heap.size]? = some (.cells #[.int .i64 5, .float .f64 0, .string ⟨#[]⟩, .slice A rows.length c] 55) := by rw [hW0]; exact heap_new2a _ _ _
  have ko : W0.heap[w.heap.size + 1]? = some (.cells #[.string ⟨#[]⟩, .float .f64 0, .string ⟨#[]⟩, .slice none 0 0, .slice none 0 0, .bool false, .string ⟨#[]⟩, .int .u8 0, .pointer none, .pointer none] 71) := by rw [hW0]; exact heap_new2b _ _ _
  have pb0 : Below w.heap.size w W0 := by rw [hW0]; exact ((Below.refl _ _).alloc (Nat.le_refl _) _).alloc (by simp) _
  have HW0 := Lib.hid hW0.symm
  have KP := Lib.hid kp
  have KO := Lib.hid ko
  have PB0 := Lib.hid pb0
  have HZ0 : Hid (0 < rows.length) := h0
  clear hT hg hW0 kp ko pb0 h0
  go_enter Tryz.func69, Tryz.ntmps69
  go_wp2
  go_loopw [3, 6, 40, 46] (fun m _ i _ wr => ∃ k : Nat, k ≤ rows.length ∧ i = .int .i64 k ∧ OwnGT wr W0.heap.size 66 m (rows.take k) ∧ Below W0.heap.size W0 wr) (fun _ _ i _ _ => rows.length - (intOf i).toNat)
  case atStart =>
    rw [HW0.out]
    exact ⟨0, Nat.zero_le _, rfl, OwnGT.nil_ _ _ _, Below.refl _ _⟩
  case round =>
    obtain ⟨k, hk, rfl, hown, hb⟩ := hrel
    by_cases hlt : k < rows.length
    · obtain ⟨row, hrow⟩ : ∃ row, rows[k]? = some row := ⟨_, List.getElem?_eq_getElem hlt⟩
      obtain ⟨g, o, c', r, e, _, hgw, hcell, hR⟩ := HT.out.at_ hrow
      injection e with e1 e2 e3
      subst e1
      clear e2 e3
      have pbr : Below w.heap.size w wr := PB0.out.trans (hb.mono PB0.out.size)
      have q0 := (pbr.cell (p := ⟨g, o + k, none⟩) hgw).trans hcell
      have HR : Hid (Row wr wr.heap.size 4 r (row.map FV.ilist)) := ((hR.row fun _ h => h).below pbr).more pbr.size
      have HB := Lib.hid hb
      have HO := Lib.hid hown
      have HTk := Lib.hid (take_snoc rows k row hrow)
      have HK : Hid (k < rows.length) := hlt
      have hm := List.mem_of_getElem? hrow
      have HOK := Lib.hid (HG.out.2.2 row hm)
      have hrl := HG.out.2.1 row hm
      obtain ⟨A2, c2, rfl⟩ : ∃ A2 c2, r = .slice A2 row.length c2 := by
        obtain ⟨A, c, h, _⟩ := hR.len
        exact ⟨A, c, by rw [List.length_map] at h; exact h⟩
      obtain ⟨wo, rfl⟩ : ∃ wo : World, wo = wr := ⟨_, rfl⟩
      clear hrow hR hb hown hm hcell pbr
      go_wp2_with fail
      go_loopw [6, 46] (fun r j wx => ∃ m : Nat, m ≤ row.length ∧ j = .int .i64 m ∧ OwnG wx wo.heap.size 71 r (row.take m) ∧ Below wo.heap.size wo wx) (fun _ j _ => row.length - (intOf j).toNat)
      case atStart => exact ⟨0, Nat.zero_le _, rfl, OwnG.nil_ _ _ _, Below.refl _ _⟩
      case round =>
        obtain ⟨m, hm, rfl, hrow, hbx⟩ := hrel
        by_cases hmt : m < row.length
        · obtain ⟨x, hx⟩ : ∃ x, row[m]? = some x := ⟨_, List.getElem?_eq_getElem hmt⟩
          obtain ⟨g2, o2, c3, e, _, hg2, hcell⟩ := HR.out.at_ (show (row.map FV.ilist)[m]? = some (FV.ilist x) by rw [List.getElem?_map, hx]; rfl)
          injection e with e1 e2 e3
          subst e1
          clear e2 e3
          have q : ∀ j u, (FV.ilist x)[j]? = some u → wr.cell? ⟨g2, o2 + m * 4 + j, none⟩ = some u := fun j u hu => (hbx.cell (p := ⟨g2, o2 + m * 4 + j, none⟩) hg2).trans (hcell j u hu)
          have p0 := q 0 _ rfl
          have p1 := q 1 _ rfl
          have p2 := q 2 _ rfl
          have p3 := q 3 _ rfl
          simp only [Nat.add_zero] at p0
          have HTm := Lib.hid (take_snoc row m x hx)
          have hok := HOK.out x (List.mem_of_getElem? hx)
          have HM : Hid (m < row.length) := hmt
          obtain ⟨gs, hgo, hgl, hgi⟩ := hrow
          have HGO := Lib.hid hgo
          have HGL := Lib.hid hgl
          have HGI := Lib.hid hgi
          have HBX := Lib.hid hbx
          have HLen : Hid ((gs.map GA.cells).length + 1 ≤ 1000001) := by rw [Hid, List.length_map, hgl, List.length_take]; omega
          clear q hx hcell hgo hgl hgi hbx hmt
          go_wp2_with (first
            | (go_at_call 69; refine (innerArg_one x _ hok).mono ?_; rintro e w2 ⟨ga, hga, rfl, hb2⟩; have HGA := Lib.hid hga; have pb2 := below_one hb2; clear hga)
            | (at_builtin; refine app_one (w0 := wo) wo.heap.size rfl (.tmp 50) (.tmp 53) 66 71 _ 10 136 rfl Tryz.underlying66 faInfo rfl (by omega) (by omega) _ _ (GA.cells ga) rfl rfl rfl (by simp [GA.cells, Value.oneCell']) (by simp) (HGO.out.below pb2) (HBX.out.trans (pb2.mono HBX.out.size)) (Nat.le_trans HBX.out.size pb2.size) (by have := HLen.out; omega) ?_; intro v2 w3 hown2 hb3 _))
          have hmt := HM.out
          go_roundw
          case rel => exact ⟨m + 1, by omega, by go_num, by rw [HTm.out]; exact OwnG.snoc hown2 HGL.out HGI.out HGA.out, hb3⟩
          case measure => simp [intOf]; omega
        · obtain rfl : m = row.length := by omega
          rw [List.take_length] at hrow
          have hrg := hrow.row
          obtain ⟨A3, c4, rfl, _⟩ := hrg.len
          have HRG := Lib.hid hrg
          have HBX := Lib.hid hbx
          obtain ⟨rs, hgo, hgl, hgi⟩ := HO.out
          have HOF := Lib.hid (off_new (w' := wr) hgo HB.out.size)
          have hgo2 := hgo.below hbx
          have HGO := Lib.hid hgo2
          have HGL := Lib.hid hgl
          have HGI := Lib.hid hgi
          have HLen : Hid ((rs.map (fun r => [r])).length + 1 ≤ 1000001) := by have := HK.out; rw [Hid, List.length_map, hgl, List.length_take]; omega
          clear hrow hrg hgo hgo2 hgl hgi hbx hmt hm
          go_wp2_with (at_builtin; refine app_off (w0 := W0) W0.heap.size rfl (.tmp 56) (.tmp 58) 67 66 _ 1 24 rfl Tryz.underlying67 faRowInfo rfl (by omega) (by omega) _ _ [.slice A3 row.length c4] rfl rfl rfl (by simp [Value.oneCell']) (by simp) HGO.out (HB.out.trans (HBX.out.mono HB.out.size)) (Nat.le_trans HB.out.size HBX.out.size) (by have := HLen.out; omega) ?_; intro v2 w3 hown2 hb3 _ hgr3 hat3)
          have hlt := HK.out
          go_roundw
          case rel =>
            refine ⟨k + 1, by omega, by go_num, ?_, hb3⟩
            rw [HTk.out]
            exact OwnGT.snoc (w := wr) hown2 HGL.out (fun i row r hrow hr => ((HGI.out i row r hrow hr).keep fun b h => HBX.out.block b h.2.1).mono fun b h => ⟨h.1, Nat.lt_of_lt_of_le h.2.1 HBX.out.size, h.2.2⟩) (HRG.out.mono HOF.out) hgr3 hat3
          case measure => simp [intOf]; omega
    · obtain rfl : k = rows.length := by omega
      rw [List.take_length] at hown
      have hmt := hown.tab
      obtain ⟨A3, c3, rfl, hc3⟩ := hmt.len
      obtain ⟨row0, hrow0⟩ : ∃ row, rows[0]? = some row := ⟨_, List.getElem?_eq_getElem HZ0.out⟩
      obtain ⟨gm, om, cm, r0, e, _, hgm, hcm, hR0⟩ := hmt.at_ hrow0
      injection e with e1 e2 e3
      subst e1
      clear e2 e3
      obtain ⟨A8, c8, rfl, _⟩ := hR0.len
      simp only [Nat.add_zero] at hcm
      have HMT := Lib.hid hmt
      have HB := Lib.hid hb
      have HGM := Lib.hid hgm
      have HCM := Lib.hid hcm
      obtain ⟨co, fo, zo, ko⟩ := box_cells KO.out hb
      have KOR := Lib.hid ko
      have hpos : (0 : Int) < (rows.length : Int) := Int.ofNat_lt.2 HZ0.out
      have hpos2 : 0 < rows.length := HZ0.out
      clear hown hb hmt hcm hR0 hrow0 hgm hk hlt
      go_wp2_with (go_at_call 72; refine (newMatrix_any _ _ _ _).mono ?_; rintro e w1 ⟨rfl, hb1⟩; obtain ⟨co1, fo1, zo1, ko1⟩ := box_cells ko hb1; clear co fo)
      refine (new_any _).mono ?_
      rintro e w2 ⟨rfl, hR2, hb2, hz2⟩
      go_wp2_with fail
      refine (new_any _).mono ?_
      rintro e w3 ⟨rfl, hR3, hb3, hz3⟩
      have k9 := box_kept (box_cells (heap_new1 w1 (.cells #[.string ⟨#[]⟩, .float .f64 0, .string ⟨#[]⟩, .slice none 0 0, .slice (some ⟨gm, om, none⟩) rows.length c3, .bool false, .string ⟨#[]⟩, .int .u8 4, .pointer none, .pointer none] 71)) hb2).2.2.2 (box_cells (heap_new1 w1 (.cells #[.string ⟨#[]⟩, .float .f64 0, .string ⟨#[]⟩, .slice none 0 0, .slice (some ⟨gm, om, none⟩) rows.length c3, .bool false, .string ⟨#[]⟩, .int .u8 4, .pointer none, .pointer none] 71)) hb2).2.2.1 hb3
      obtain ⟨c9, f9, z9⟩ := row_facts k9
      have pb3 : Below wr.heap.size wr w3 := hb1.trans (((below_one hb2).trans (hb3.mono (below_one hb2).size)).mono hb1.size)
      have hs1 := hb1.size
      have hs2 : w1.heap.size < w2.heap.size := (box_cells (heap_new1 w1 (.cells #[.string ⟨#[]⟩, .float .f64 0, .string ⟨#[]⟩, .slice none 0 0, .slice (some ⟨gm, om, none⟩) rows.length c3, .bool false, .string ⟨#[]⟩, .int .u8 4, .pointer none, .pointer none] 71)) hb2).2.2.1
      obtain ⟨lq, hlq⟩ : ∃ lq, lq = w2.heap.size := ⟨_, rfl⟩
      rw [← hlq] at hR3 ⊢
      obtain ⟨W4, hW4⟩ : ∃ W4 : World, W4 = (w3.setCell ⟨w1.heap.size, 8, none⟩ (.pointer (some ⟨w1.heap.size + 1, 0, none⟩))).setCell ⟨w1.heap.size, 9, none⟩ (.pointer (some ⟨lq, 0, none⟩)) := ⟨_, rfl⟩
      have k9b : W4.heap[w1.heap.size]? = some (.cells #[.string ⟨#[]⟩, .float .f64 0, .string ⟨#[]⟩, .slice none 0 0, .slice (some ⟨gm, om, none⟩) rows.length c3, .bool false, .string ⟨#[]⟩, .int .u8 4, .pointer (some ⟨w1.heap.size + 1, 0, none⟩), .pointer (some ⟨lq, 0, none⟩)] 71) := by rw [hW4]; exact (heap_set_same (heap_set_same k9 _) _).trans (by simp)
      have hfar4 : ∀ b, b ≠ w1.heap.size → W4.heap[b]? = w3.heap[b]? := fun b hb => by rw [hW4, heap_set_far hb, heap_set_far hb]
      have hz4 : W4.heap.size = w3.heap.size := by rw [hW4]; simp [World.setCell]
      have hgl : gm < wr.heap.size := HGM.out.2
      have s1 : W4.cell? ⟨w1.heap.size, 9, none⟩ = some (.pointer (some ⟨lq, 0, none⟩)) := (row_facts k9b).1 9
      have s2 : W4.cell? ⟨gm, om, none⟩ = some (.slice A8 row0.length c8) := by
        refine (World.cell?_of_block (a := ⟨gm, om, none⟩) (hfar4 gm (by omega))).trans ?_
        exact (pb3.cell (p := ⟨gm, om, none⟩) hgl).trans HCM.out
      have hR4 : Ring W4 lq [] := ⟨by rw [hfar4 lq (by omega)]; exact hR3.head, fun i e v h => by simp at h, fun i j e e' h => by simp at h, fun e h => by simp at h⟩
      have pb4 : Below wr.heap.size wr W4 := by rw [hW4]; exact (pb3.setCell (p := ⟨w1.heap.size, 8, none⟩) hs1 _).setCell (p := ⟨w1.heap.size, 9, none⟩) hs1 _
      have HKS : Hid (∀ w5 : World, (∀ k, k < W4.heap.size → k ≠ lq → (∀ q ∈ ([] : List (Nat × Value)), k ≠ q.1) → w5.heap[k]? = W4.heap[k]?) → w5.cell? ⟨w1.heap.size, 9, none⟩ = some (.pointer (some ⟨lq, 0, none⟩)) ∧ w5.cell? ⟨gm, om, none⟩ = some (.slice A8 row0.length c8)) := by
        intro w5 h5
        have hz3 := z9
        exact ⟨(World.cell?_of_block (a := ⟨w1.heap.size, 9, none⟩) (h5 w1.heap.size (by omega) (by omega) (by simp))).trans s1, (World.cell?_of_block (a := ⟨gm, om, none⟩) (h5 gm (by omega) (by omega) (by simp))).trans s2⟩
      have HW4 := Lib.hid hW4.symm
      have HR4 : Hid (Ring W4.drew lq []) := ⟨hR4.head, hR4.elem, hR4.order, hR4.above⟩
      have HK9 := Lib.hid k9b
      have HF4 := Lib.hid hfar4
      have PB4 := Lib.hid pb4
      have KO1 := Lib.hid ko1
      have HLQ := Lib.hid hlq
      clear hW4 hR4 k9b hfar4 hz4 hR3 hlq hR2 hb1 hb2 hb3 hz2 hz3 pb4 co1 fo1 ko1
      go_wp2
      rw [HW4.out]
      go_region_held3 (fun w' => w'.cell? ⟨w1.heap.size, 9, none⟩ = some (.pointer (some ⟨lq, 0, none⟩)) ∧ w'.cell? ⟨gm, om, none⟩ = some (.slice A8 row0.length c8))
        (first | go_keep | exact HKS.out _ hfar5)
        ((go_at_call 68; refine (push_far (es := []) (l := lq) _ _ _ ?_ (by decide)).mono ?_; exact HR4.out; rintro e w5 ⟨rfl, hR5, hb5, hz5, hfar5⟩))
      have hk9 : w5.heap[w1.heap.size]? = _ := (hfar5 w1.heap.size (heap_lt HK9.out) (by have := HLQ.out; omega) (by simp)).trans HK9.out
      have hlo : w.heap.size + 1 < wr.heap.size := zo
      have hko : w5.heap[w.heap.size + 1]? = _ := (hfar5 (w.heap.size + 1) (Nat.lt_of_lt_of_le hlo PB4.out.size) (by have := HLQ.out; omega) (by simp)).trans ((PB4.out.block _ hlo).trans KOR.out)
      have hlq := HLQ.out
      have hw0 : w.heap.size + 1 < W0.heap.size := heap_lt KO.out
      have pb5 : Below wr.heap.size wr w5 := PB4.out.trans (Below.ofDrew (hb5 _ (by omega)))
      have pbw : Below w.heap.size w w5 := PB0.out.trans ((HB.out.trans (pb5.mono HB.out.size)).mono PB0.out.size)
      have HPW := Lib.hid pbw
      have HP5 := Lib.hid pb5
      have HW0L := Lib.hid hw0
      obtain ⟨c9, f9, z9⟩ := row_facts hk9
      obtain ⟨cr, fr, zr⟩ := row_facts hko
      clear hfar5 hb5 hz5 hR5 hk9 hko s1 s2 pbw pb5 hlq hw0
      go_wp2
      refine bodyPost_ret (v := .agg #[.string ⟨#[]⟩, .float .f64 0, .string ⟨#[]⟩, .slice none 0 0, .slice (some ⟨gm, om, none⟩) rows.length c3, .bool false, .string ⟨#[]⟩, .int .u8 4, .pointer (some ⟨w1.heap.size + 1, 0, none⟩), .pointer (some ⟨lq, 0, none⟩)]) (by simp [results, Tryz.results69, go_sem, cr]) rfl ⟨⟨_, _, _, ?_, rfl⟩, ?_⟩
      · have hw0 := HW0L.out
        refine (HMT.out.keep fun b h => ?_).mono fun b h => ⟨by have := h.1; omega, by have := h.2; have := HP5.out.size; simp only [World.setCell, Array.size_modify]; omega⟩
        have := h.1
        (repeat rw [heap_set_far (by omega)])
        exact HP5.out.block b h.2
      · clear cr fr
        (repeat refine below_set1 ?_ _ _)
        exact HPW.out

set_option maxRecDepth 100000 in
set_option maxHeartbeats 2000000 in
theorem innerList_args (al : List Arg) (v : Value) (w : World) (hr : IRow w w.heap.size v al) (hk : ∀ a ∈ al, a.good) (hrw : ∀ rows, Arg.tbl rows ∈ al → 0 < rows.length) (hn : al.length ≤ 1000000) :
    Calls Tryz.prog 45 #[v] w fun e w' => ∃ l es, e = .returned (.pointer (some ⟨l, 0, none⟩)) ∧ IListA w' l al es ∧ w.heap.size ≤ l ∧ Below w.heap.size w w' := by
  obtain ⟨A, c, rfl⟩ : ∃ A c, v = .slice A al.length c := by
    obtain ⟨A, c, h, _⟩ := hr.len
    exact ⟨A, c, h⟩
  have HR := Lib.hid hr
  have HG := Lib.hid hk
  have HRW := Lib.hid hrw
  have hu59 := Tryz.underlying55
  clear hr hk hrw
  go_enter Tryz.func45, Tryz.ntmps45
  go_wp2_with (go_at_call 67; refine (new_any _).mono ?_; rintro e w1 ⟨rfl, hR1, hb1, hz1⟩)
  obtain ⟨l, hl⟩ : ∃ l, l = w.heap.size := ⟨_, rfl⟩
  rw [← hl] at hR1
  have HR1 : Hid (IListA w1 l (al.take 0) []) := ⟨hR1, by simp, fun i x p h => by simp at h⟩
  have HL := Lib.hid hl
  clear hR1 hl
  go_loopw [9] (fun i wr => ∃ k es, k ≤ al.length ∧ i = .int .i64 (k : Nat) ∧ IListA wr w.heap.size (al.take k) es ∧ Below w.heap.size w wr) (fun i _ => al.length - (intOf i).toNat)
  case atStart => exact ⟨0, [], Nat.zero_le _, rfl, by have := HR1.out; rwa [HL.out] at this, hb1⟩
  case round =>
    obtain ⟨k, es, hk1, rfl, hI, hb⟩ := hrel
    by_cases hlt : k < al.length
    · obtain ⟨a, hak⟩ : ∃ a, al[k]? = some a := ⟨_, List.getElem?_eq_getElem hlt⟩
      obtain ⟨g, o, c', x, e, _, hgw, hx, hcell⟩ := HR.out.at_ hak
      injection e with e1 e2 e3
      subst e1
      clear e2 e3
      have hmem := List.mem_of_getElem? hak
      have hga := HG.out a hmem
      have hbz := hb.size
      obtain ⟨wo, rfl⟩ : ∃ wo : World, wo = wr := ⟨_, rfl⟩
      have HX := Lib.hid hak
      have HI := Lib.hid hI
      have HB := Lib.hid hb
      have HK : Hid (k < al.length) := hlt
      have hel : es.length ≤ 1000000 := by rw [hI.len, List.length_take]; omega
      cases a with
      | one f =>
        have hxf : x = FV.ilist f := hx
        subst hxf
        have q : ∀ j u, (FV.ilist f)[j]? = some u → wo.cell? ⟨g, o + k * 4 + j, none⟩ = some u := fun j u hu => (hb.cell (p := ⟨g, o + k * 4 + j, none⟩) hgw).trans (hcell j u hu)
        have q0 := q 0 _ rfl
        have q1 := q 1 _ rfl
        have q2 := q 2 _ rfl
        have q3 := q 3 _ rfl
        have hok : f.ok := hga
        clear q hak hcell hI hx hmem hga hb
        simp only [Nat.add_zero] at q0
        go_wp2_with (first
          | (go_at_call 69; refine (innerArg_one f _ hok).mono ?_; rintro e w2 ⟨ga, hga, rfl, hb2⟩; have HGA := Lib.hid hga; clear hga; have hb3 := below_one hb2)
          | (go_at_call 68; refine (push_far _ _ _ (HI.out.ring.below hb3) hel).mono ?_; rintro e w3 ⟨rfl, hR3, hb4, hz3, hfar3⟩))
        have hlt := HK.out
        go_roundw
        case rel => exact ⟨k + 1, _, by omega, by go_num, HI.out.snoc HX.out hb3 ⟨ga, HGA.out, rfl⟩ hR3 hz3 hfar3, HB.out.trans ((hb3.mono HB.out.size).trans (hb4 _ (Nat.le_refl _)))⟩
        case measure => simp [intOf]; omega
      | tbl rows =>
        obtain ⟨rv, rfl, hT⟩ := hx
        obtain ⟨A2, c2, rfl, _⟩ := hT.len
        have q : ∀ j u, [Value.int .i64 5, .float .f64 0, .string ⟨#[]⟩, .slice A2 rows.length c2][j]? = some u → wo.cell? ⟨g, o + k * 4 + j, none⟩ = some u := fun j u hu => (hb.cell (p := ⟨g, o + k * 4 + j, none⟩) hgw).trans (hcell j u hu)
        have q0 := q 0 _ rfl
        have q1 := q 1 _ rfl
        have q2 := q 2 _ rfl
        have q3 := q 3 _ rfl
        have HG2 := Lib.hid hga
        have H0 := Lib.hid (HRW.out rows hmem)
        have HT : Hid (∀ W, Below wo.heap.size wo W → RRowS 4 FV.ilist W (· < W.heap.size) (.slice A2 rows.length c2) rows) := fun W hW =>
          ((hT.keep fun b h => hb.block b h).keep fun b h => hW.block b (Nat.lt_of_lt_of_le h hbz)).mono fun b h => Nat.lt_of_lt_of_le (Nat.lt_of_lt_of_le h hbz) hW.size
        clear q hak hcell hI hT hmem hga hb
        simp only [Nat.add_zero] at q0
        go_wp2_with (first
          | (go_at_call 69; refine (innerArg_tbl rows _ _ (HT.out _ ((Below.refl _ _).alloc (Nat.le_refl _) _)) HG2.out H0.out).mono ?_; rintro e w2 ⟨⟨mv, p, q, hga, rfl⟩, hb2⟩; have HGA := Lib.hid hga; clear hga; have hb3 := below_one hb2)
          | (go_at_call 68; refine (push_far _ _ _ (HI.out.ring.below hb3) hel).mono ?_; rintro e w3 ⟨rfl, hR3, hb4, hz3, hfar3⟩))
        have hlt := HK.out
        go_roundw
        case rel => exact ⟨k + 1, _, by omega, by go_num, HI.out.snoc HX.out hb3 ⟨mv, p, q, HGA.out.mono fun b h => ⟨by have := h.1; simp at this; omega, h.2⟩, rfl⟩ hR3 hz3 hfar3, HB.out.trans ((hb3.mono HB.out.size).trans (hb4 _ (Nat.le_refl _)))⟩
        case measure => simp [intOf]; omega
    · obtain rfl : k = al.length := by omega
      rw [List.take_length] at hI
      go_wp2
      go_ret
      exact ⟨_, es, rfl, hI, Nat.le_refl _, hb⟩

end Go.Proofs.YtkglbccdiofnkaaGreatDoor
