/-
The doors of the package and the functions of the thin package, at arguments among which there are tables: they say what the package's functions say.
-/
import Derived.Test.YtkglbccdiofnkaaGreatDoorDoor
import Derived.Test.YtkglbccdiofnkaaGreatDoorInT
import Derived.Test.YtkglbccdiofnkaaGreatDoorInnT
namespace Go.Proofs.YtkglbccdiofnkaaGreatDoor
open Go.RowKit Go.Fl

set_option maxRecDepth 100000 in
set_option maxHeartbeats 1000000 in
theorem doorT_PRODUCT (al : List Arg) (r : FV) (v : Value) (w : World) (hr : IRow w w.heap.size v al) (hok : ∀ a ∈ al, a.good) (hrw : ∀ rows, Arg.tbl rows ∈ al → 0 < rows.length) (hn : al.length ≤ 1000000)
    (hf : ∀ W f l es, IListA W l al es → Calls Tryz.prog 44 #[.pointer f, .pointer (some ⟨l, 0, none⟩)] W (Tells r W)) :
    Calls Tryz.prog 29 #[v] w (Says r w) := by
  have HF := Lib.hid hf
  have HR := Lib.hid hr
  have HOK := Lib.hid hok
  have HRW := Lib.hid hrw
  clear hf hr hok hrw
  go_enter Tryz.func29, Tryz.ntmps29
  go_wp2_with (first
    | (go_at_call 43; refine (doorFuncs_any _).mono ?_; rintro e w1 ⟨rfl, hb1⟩; obtain ⟨c1, f1, z1, k1⟩ := box_cells (heap_new1 _ _) hb1; have pb1 := below_one hb1)
    | (go_at_call 45; refine (innerList_args al v _ ((HR.out.below pb1).more pb1.size) HOK.out HRW.out hn).mono ?_; rintro e w2 ⟨l, es, rfl, hI, hll, hb2⟩; obtain ⟨c2, f2, z2, k2⟩ := box_cells k1 hb2; have pb2 := below_next pb1 pb1.size hb2; have HI := Lib.hid hI; clear c1 f1 hI)
    | (go_at_call 44; refine (HF.out _ _ _ _ HI.out).mono ?_; rintro e w3 ⟨g, hg, rfl, hb3⟩; obtain ⟨c3, f3, z3, k3⟩ := box_cells k2 hb3; have pb3 := below_next pb2 pb2.size hb3; have HG := Lib.hid hg; clear c2 f2 hg)
    | (go_at_call 42; refine (doorArg_any g _ HG.out.1).mono ?_; rintro e w4 ⟨rfl, hb4⟩; obtain ⟨c4, f4, z4, k4⟩ := box_cells k3 hb4; have pb4 := below_next pb3 pb3.size hb4; clear c3 f3))
  refine bodyPost_ret (v := .agg #[.int .i64 g.dk, .float .f64 g.dn, .string g.dt, .slice none 0 0]) (by simp [results, Tryz.results29, go_sem, c4]) rfl ⟨g.dn, HG.out.2.2.1, by rw [HG.out.2.1, HG.out.2.2.2], ?_⟩
  clear c4 f4
  (repeat refine below_set0 ?_ _ _)
  exact pb4
set_option maxRecDepth 100000 in
set_option maxHeartbeats 1000000 in
theorem implT_PRODUCT (al : List Arg) (r : FV) (v : Value) (w : World) (hr : IRow w w.heap.size v al) (hok : ∀ a ∈ al, a.good) (hrw : ∀ rows, Arg.tbl rows ∈ al → 0 < rows.length) (hn : al.length ≤ 1000000)
    (hf : ∀ W f l es, IListA W l al es → Calls Tryz.prog 44 #[.pointer f, .pointer (some ⟨l, 0, none⟩)] W (Tells r W)) :
    Calls Tryz.prog 11 #[v] w (Says r w) := by
  have HF := Lib.hid hf
  have HR := Lib.hid hr
  have HOK := Lib.hid hok
  have HRW := Lib.hid hrw
  clear hf hr hok hrw
  go_enter Tryz.func11, Tryz.ntmps11
  go_wp2_with (first
    | (go_at_call 30; refine (in_args al v _ ((HR.out.below ((Below.refl _ _).alloc (Nat.le_refl _) _)).more (by simp)) HOK.out hn).mono ?_; rintro e w1 ⟨v1, rfl, hR1, hb1⟩; obtain ⟨c1, f1, z1, k1⟩ := box_cells (heap_new1 _ _) hb1; have pb1 := below_one hb1; have HR1 := Lib.hid hR1; clear hR1)
    | (go_at_call 29; refine (doorT_PRODUCT al r v1 _ HR1.out HOK.out HRW.out hn HF.out).mono ?_; rintro e w2 ⟨y, hy, rfl, hb2⟩; obtain ⟨c2, f2, z2, k2⟩ := box_cells k1 hb2; have pb2 := below_next pb1 pb1.size hb2; have HY := Lib.hid hy; clear c1 f1 hy)
    | (go_at_call 28; refine (out_one _ _ _ _).mono ?_; rintro e w3 ⟨rfl, hb3⟩; obtain ⟨c3, f3, z3, k3⟩ := box_cells k2 hb3; have pb3 := below_next pb2 pb2.size hb3; clear c2 f2))
  refine bodyPost_ret (v := .agg #[.int .i64 r.kind, .float .f64 y, .string r.text, .slice none 0 0]) (by simp [results, Tryz.results11, go_sem, c3]) rfl ⟨y, HY.out, rfl, ?_⟩
  clear c3 f3
  (repeat refine below_set0 ?_ _ _)
  exact pb3
theorem enterT_PRODUCT (a : Value) (W : World) : Sem.run Tryz.prog (callFunc 11 #[a]) W = .ok (.enter 11 #[a]) W := by kernel_rfl

set_option maxRecDepth 100000 in
set_option maxHeartbeats 1000000 in
theorem doorT_SMALL (al : List Arg) (r : FV) (v : Value) (w : World) (hr : IRow w w.heap.size v al) (hok : ∀ a ∈ al, a.good) (hrw : ∀ rows, Arg.tbl rows ∈ al → 0 < rows.length) (hn : al.length ≤ 1000000)
    (hf : ∀ W f l es, IListA W l al es → Calls Tryz.prog 51 #[.pointer f, .pointer (some ⟨l, 0, none⟩)] W (Tells r W)) :
    Calls Tryz.prog 36 #[v] w (Says r w) := by
  have HF := Lib.hid hf
  have HR := Lib.hid hr
  have HOK := Lib.hid hok
  have HRW := Lib.hid hrw
  clear hf hr hok hrw
  go_enter Tryz.func36, Tryz.ntmps36
  go_wp2_with (first
    | (go_at_call 43; refine (doorFuncs_any _).mono ?_; rintro e w1 ⟨rfl, hb1⟩; obtain ⟨c1, f1, z1, k1⟩ := box_cells (heap_new1 _ _) hb1; have pb1 := below_one hb1)
    | (go_at_call 45; refine (innerList_args al v _ ((HR.out.below pb1).more pb1.size) HOK.out HRW.out hn).mono ?_; rintro e w2 ⟨l, es, rfl, hI, hll, hb2⟩; obtain ⟨c2, f2, z2, k2⟩ := box_cells k1 hb2; have pb2 := below_next pb1 pb1.size hb2; have HI := Lib.hid hI; clear c1 f1 hI)
    | (go_at_call 51; refine (HF.out _ _ _ _ HI.out).mono ?_; rintro e w3 ⟨g, hg, rfl, hb3⟩; obtain ⟨c3, f3, z3, k3⟩ := box_cells k2 hb3; have pb3 := below_next pb2 pb2.size hb3; have HG := Lib.hid hg; clear c2 f2 hg)
    | (go_at_call 42; refine (doorArg_any g _ HG.out.1).mono ?_; rintro e w4 ⟨rfl, hb4⟩; obtain ⟨c4, f4, z4, k4⟩ := box_cells k3 hb4; have pb4 := below_next pb3 pb3.size hb4; clear c3 f3))
  refine bodyPost_ret (v := .agg #[.int .i64 g.dk, .float .f64 g.dn, .string g.dt, .slice none 0 0]) (by simp [results, Tryz.results36, go_sem, c4]) rfl ⟨g.dn, HG.out.2.2.1, by rw [HG.out.2.1, HG.out.2.2.2], ?_⟩
  clear c4 f4
  (repeat refine below_set0 ?_ _ _)
  exact pb4
set_option maxRecDepth 100000 in
set_option maxHeartbeats 1000000 in
theorem implT_SMALL (al : List Arg) (r : FV) (v : Value) (w : World) (hr : IRow w w.heap.size v al) (hok : ∀ a ∈ al, a.good) (hrw : ∀ rows, Arg.tbl rows ∈ al → 0 < rows.length) (hn : al.length ≤ 1000000)
    (hf : ∀ W f l es, IListA W l al es → Calls Tryz.prog 51 #[.pointer f, .pointer (some ⟨l, 0, none⟩)] W (Tells r W)) :
    Calls Tryz.prog 19 #[v] w (Says r w) := by
  have HF := Lib.hid hf
  have HR := Lib.hid hr
  have HOK := Lib.hid hok
  have HRW := Lib.hid hrw
  clear hf hr hok hrw
  go_enter Tryz.func19, Tryz.ntmps19
  go_wp2_with (first
    | (go_at_call 30; refine (in_args al v _ ((HR.out.below ((Below.refl _ _).alloc (Nat.le_refl _) _)).more (by simp)) HOK.out hn).mono ?_; rintro e w1 ⟨v1, rfl, hR1, hb1⟩; obtain ⟨c1, f1, z1, k1⟩ := box_cells (heap_new1 _ _) hb1; have pb1 := below_one hb1; have HR1 := Lib.hid hR1; clear hR1)
    | (go_at_call 36; refine (doorT_SMALL al r v1 _ HR1.out HOK.out HRW.out hn HF.out).mono ?_; rintro e w2 ⟨y, hy, rfl, hb2⟩; obtain ⟨c2, f2, z2, k2⟩ := box_cells k1 hb2; have pb2 := below_next pb1 pb1.size hb2; have HY := Lib.hid hy; clear c1 f1 hy)
    | (go_at_call 28; refine (out_one _ _ _ _).mono ?_; rintro e w3 ⟨rfl, hb3⟩; obtain ⟨c3, f3, z3, k3⟩ := box_cells k2 hb3; have pb3 := below_next pb2 pb2.size hb3; clear c2 f2))
  refine bodyPost_ret (v := .agg #[.int .i64 r.kind, .float .f64 y, .string r.text, .slice none 0 0]) (by simp [results, Tryz.results19, go_sem, c3]) rfl ⟨y, HY.out, rfl, ?_⟩
  clear c3 f3
  (repeat refine below_set0 ?_ _ _)
  exact pb3
theorem enterT_SMALL (a : Value) (W : World) : Sem.run Tryz.prog (callFunc 19 #[a]) W = .ok (.enter 19 #[a]) W := by kernel_rfl

set_option maxRecDepth 100000 in
set_option maxHeartbeats 1000000 in
theorem doorT_AVERAGE (al : List Arg) (r : FV) (v : Value) (w : World) (hr : IRow w w.heap.size v al) (hok : ∀ a ∈ al, a.good) (hrw : ∀ rows, Arg.tbl rows ∈ al → 0 < rows.length) (hn : al.length ≤ 1000000)
    (hf : ∀ W f l es, IListA W l al es → Calls Tryz.prog 52 #[.pointer f, .pointer (some ⟨l, 0, none⟩)] W (Tells r W)) :
    Calls Tryz.prog 37 #[v] w (Says r w) := by
  have HF := Lib.hid hf
  have HR := Lib.hid hr
  have HOK := Lib.hid hok
  have HRW := Lib.hid hrw
  clear hf hr hok hrw
  go_enter Tryz.func37, Tryz.ntmps37
  go_wp2_with (first
    | (go_at_call 43; refine (doorFuncs_any _).mono ?_; rintro e w1 ⟨rfl, hb1⟩; obtain ⟨c1, f1, z1, k1⟩ := box_cells (heap_new1 _ _) hb1; have pb1 := below_one hb1)
    | (go_at_call 45; refine (innerList_args al v _ ((HR.out.below pb1).more pb1.size) HOK.out HRW.out hn).mono ?_; rintro e w2 ⟨l, es, rfl, hI, hll, hb2⟩; obtain ⟨c2, f2, z2, k2⟩ := box_cells k1 hb2; have pb2 := below_next pb1 pb1.size hb2; have HI := Lib.hid hI; clear c1 f1 hI)
    | (go_at_call 52; refine (HF.out _ _ _ _ HI.out).mono ?_; rintro e w3 ⟨g, hg, rfl, hb3⟩; obtain ⟨c3, f3, z3, k3⟩ := box_cells k2 hb3; have pb3 := below_next pb2 pb2.size hb3; have HG := Lib.hid hg; clear c2 f2 hg)
    | (go_at_call 42; refine (doorArg_any g _ HG.out.1).mono ?_; rintro e w4 ⟨rfl, hb4⟩; obtain ⟨c4, f4, z4, k4⟩ := box_cells k3 hb4; have pb4 := below_next pb3 pb3.size hb4; clear c3 f3))
  refine bodyPost_ret (v := .agg #[.int .i64 g.dk, .float .f64 g.dn, .string g.dt, .slice none 0 0]) (by simp [results, Tryz.results37, go_sem, c4]) rfl ⟨g.dn, HG.out.2.2.1, by rw [HG.out.2.1, HG.out.2.2.2], ?_⟩
  clear c4 f4
  (repeat refine below_set0 ?_ _ _)
  exact pb4
set_option maxRecDepth 100000 in
set_option maxHeartbeats 1000000 in
theorem implT_AVERAGE (al : List Arg) (r : FV) (v : Value) (w : World) (hr : IRow w w.heap.size v al) (hok : ∀ a ∈ al, a.good) (hrw : ∀ rows, Arg.tbl rows ∈ al → 0 < rows.length) (hn : al.length ≤ 1000000)
    (hf : ∀ W f l es, IListA W l al es → Calls Tryz.prog 52 #[.pointer f, .pointer (some ⟨l, 0, none⟩)] W (Tells r W)) :
    Calls Tryz.prog 20 #[v] w (Says r w) := by
  have HF := Lib.hid hf
  have HR := Lib.hid hr
  have HOK := Lib.hid hok
  have HRW := Lib.hid hrw
  clear hf hr hok hrw
  go_enter Tryz.func20, Tryz.ntmps20
  go_wp2_with (first
    | (go_at_call 30; refine (in_args al v _ ((HR.out.below ((Below.refl _ _).alloc (Nat.le_refl _) _)).more (by simp)) HOK.out hn).mono ?_; rintro e w1 ⟨v1, rfl, hR1, hb1⟩; obtain ⟨c1, f1, z1, k1⟩ := box_cells (heap_new1 _ _) hb1; have pb1 := below_one hb1; have HR1 := Lib.hid hR1; clear hR1)
    | (go_at_call 37; refine (doorT_AVERAGE al r v1 _ HR1.out HOK.out HRW.out hn HF.out).mono ?_; rintro e w2 ⟨y, hy, rfl, hb2⟩; obtain ⟨c2, f2, z2, k2⟩ := box_cells k1 hb2; have pb2 := below_next pb1 pb1.size hb2; have HY := Lib.hid hy; clear c1 f1 hy)
    | (go_at_call 28; refine (out_one _ _ _ _).mono ?_; rintro e w3 ⟨rfl, hb3⟩; obtain ⟨c3, f3, z3, k3⟩ := box_cells k2 hb3; have pb3 := below_next pb2 pb2.size hb3; clear c2 f2))
  refine bodyPost_ret (v := .agg #[.int .i64 r.kind, .float .f64 y, .string r.text, .slice none 0 0]) (by simp [results, Tryz.results20, go_sem, c3]) rfl ⟨y, HY.out, rfl, ?_⟩
  clear c3 f3
  (repeat refine below_set0 ?_ _ _)
  exact pb3
theorem enterT_AVERAGE (a : Value) (W : World) : Sem.run Tryz.prog (callFunc 20 #[a]) W = .ok (.enter 20 #[a]) W := by kernel_rfl

set_option maxRecDepth 100000 in
set_option maxHeartbeats 1000000 in
theorem doorT_MIN (al : List Arg) (r : FV) (v : Value) (w : World) (hr : IRow w w.heap.size v al) (hok : ∀ a ∈ al, a.good) (hrw : ∀ rows, Arg.tbl rows ∈ al → 0 < rows.length) (hn : al.length ≤ 1000000)
    (hf : ∀ W f l es, IListA W l al es → Calls Tryz.prog 53 #[.pointer f, .pointer (some ⟨l, 0, none⟩)] W (Tells r W)) :
    Calls Tryz.prog 38 #[v] w (Says r w) := by
  have HF := Lib.hid hf
  have HR := Lib.hid hr
  have HOK := Lib.hid hok
  have HRW := Lib.hid hrw
  clear hf hr hok hrw
  go_enter Tryz.func38, Tryz.ntmps38
  go_wp2_with (first
    | (go_at_call 43; refine (doorFuncs_any _).mono ?_; rintro e w1 ⟨rfl, hb1⟩; obtain ⟨c1, f1, z1, k1⟩ := box_cells (heap_new1 _ _) hb1; have pb1 := below_one hb1)
    | (go_at_call 45; refine (innerList_args al v _ ((HR.out.below pb1).more pb1.size) HOK.out HRW.out hn).mono ?_; rintro e w2 ⟨l, es, rfl, hI, hll, hb2⟩; obtain ⟨c2, f2, z2, k2⟩ := box_cells k1 hb2; have pb2 := below_next pb1 pb1.size hb2; have HI := Lib.hid hI; clear c1 f1 hI)
    | (go_at_call 53; refine (HF.out _ _ _ _ HI.out).mono ?_; rintro e w3 ⟨g, hg, rfl, hb3⟩; obtain ⟨c3, f3, z3, k3⟩ := box_cells k2 hb3; have pb3 := below_next pb2 pb2.size hb3; have HG := Lib.hid hg; clear c2 f2 hg)
    | (go_at_call 42; refine (doorArg_any g _ HG.out.1).mono ?_; rintro e w4 ⟨rfl, hb4⟩; obtain ⟨c4, f4, z4, k4⟩ := box_cells k3 hb4; have pb4 := below_next pb3 pb3.size hb4; clear c3 f3))
  refine bodyPost_ret (v := .agg #[.int .i64 g.dk, .float .f64 g.dn, .string g.dt, .slice none 0 0]) (by simp [results, Tryz.results38, go_sem, c4]) rfl ⟨g.dn, HG.out.2.2.1, by rw [HG.out.2.1, HG.out.2.2.2], ?_⟩
  clear c4 f4
  (repeat refine below_set0 ?_ _ _)
  exact pb4
set_option maxRecDepth 100000 in
set_option maxHeartbeats 1000000 in
theorem implT_MIN (al : List Arg) (r : FV) (v : Value) (w : World) (hr : IRow w w.heap.size v al) (hok : ∀ a ∈ al, a.good) (hrw : ∀ rows, Arg.tbl rows ∈ al → 0 < rows.length) (hn : al.length ≤ 1000000)
    (hf : ∀ W f l es, IListA W l al es → Calls Tryz.prog 53 #[.pointer f, .pointer (some ⟨l, 0, none⟩)] W (Tells r W)) :
    Calls Tryz.prog 21 #[v] w (Says r w) := by
  have HF := Lib.hid hf
  have HR := Lib.hid hr
  have HOK := Lib.hid hok
  have HRW := Lib.hid hrw
  clear hf hr hok hrw
  go_enter Tryz.func21, Tryz.ntmps21
  go_wp2_with (first
    | (go_at_call 30; refine (in_args al v _ ((HR.out.below ((Below.refl _ _).alloc (Nat.le_refl _) _)).more (by simp)) HOK.out hn).mono ?_; rintro e w1 ⟨v1, rfl, hR1, hb1⟩; obtain ⟨c1, f1, z1, k1⟩ := box_cells (heap_new1 _ _) hb1; have pb1 := below_one hb1; have HR1 := Lib.hid hR1; clear hR1)
    | (go_at_call 38; refine (doorT_MIN al r v1 _ HR1.out HOK.out HRW.out hn HF.out).mono ?_; rintro e w2 ⟨y, hy, rfl, hb2⟩; obtain ⟨c2, f2, z2, k2⟩ := box_cells k1 hb2; have pb2 := below_next pb1 pb1.size hb2; have HY := Lib.hid hy; clear c1 f1 hy)
    | (go_at_call 28; refine (out_one _ _ _ _).mono ?_; rintro e w3 ⟨rfl, hb3⟩; obtain ⟨c3, f3, z3, k3⟩ := box_cells k2 hb3; have pb3 := below_next pb2 pb2.size hb3; clear c2 f2))
  refine bodyPost_ret (v := .agg #[.int .i64 r.kind, .float .f64 y, .string r.text, .slice none 0 0]) (by simp [results, Tryz.results21, go_sem, c3]) rfl ⟨y, HY.out, rfl, ?_⟩
  clear c3 f3
  (repeat refine below_set0 ?_ _ _)
  exact pb3
theorem enterT_MIN (a : Value) (W : World) : Sem.run Tryz.prog (callFunc 21 #[a]) W = .ok (.enter 21 #[a]) W := by kernel_rfl

end Go.Proofs.YtkglbccdiofnkaaGreatDoor

