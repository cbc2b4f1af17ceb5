/-
The doors of the package and the functions of the thin package: they say what the package's functions say.
-/
import Derived.Test.YtopomonencffkaaGreatDoorOut
import Derived.Test.YtopomonencffkaaGreatDoorOver
import Derived.Test.YtopomonencffkaaGreatDoorAgrees
namespace Go.Proofs.YtopomonencffkaaGreatDoor
open Go.RowKit Go.Fl

def GA.dk (g : GA) : Int := if g.type = 1 then (if g.bool then 3 else 1) else if g.type = 2 then 2 else if g.type = 5 then 4 else 0
def GA.dn (g : GA) : Nat := if g.type = 1 then g.num else 0
def GA.dt (g : GA) : ByteArray := if g.type = 2 ∨ g.type = 5 then g.str else ⟨#[]⟩
def GA.plain (g : GA) : Prop := g.type = 1 ∨ g.type = 2 ∨ g.type = 5 ∨ g.type = 6

theorem doorArg_any (g : GA) (w : World) (h : g.plain) :
    Calls Tryz.prog 33 #[.agg #[.string ⟨#[]⟩, .float .f64 g.num, .string g.str, .slice none 0 0, .slice none 0 0, .bool g.bool, .string g.err, .int .u8 g.type, .pointer none, .pointer none]] w fun e w' => e = .returned (.agg #[.int .i64 g.dk, .float .f64 g.dn, .string g.dt, .slice none 0 0]) ∧ Below w.heap.size w w' := by
  obtain ⟨n, s, b, t, k⟩ := g
  rcases h with h | h | h | h <;> (have hk : k = _ := h; subst hk)
  · cases b
    · exact doorArg_num n s t w
    · exact doorArg_bool n s t w
  · exact doorArg_str n s t b w
  · exact doorArg_err n s t b w
  · exact doorArg_empty n s t b w

/-- The package's value is what the reference says. -/
def Match (r : FV) (g : GA) : Prop := g.plain ∧ g.dk = r.kind ∧ Sx g.dn r.six ∧ g.dt = r.text
/-- A function of the package says what the reference says. -/
def Tells (r : FV) (w : World) (e : Ending) (w' : World) : Prop := ∃ g, Match r g ∧ e = .returned (.agg #[.string ⟨#[]⟩, .float .f64 g.num, .string g.str, .slice none 0 0, .slice none 0 0, .bool g.bool, .string g.err, .int .u8 g.type, .pointer none, .pointer none]) ∧ Below w.heap.size w w'











set_option maxRecDepth 100000 in
set_option maxHeartbeats 1000000 in
theorem door_MID (vs : List FV) (r : FV) (v : Value) (w : World) (hr : Row w w.heap.size 4 v (vs.map FV.ilist)) (hok : ∀ x ∈ vs, x.ok) (hn : vs.length ≤ 1000000)
    (hf : ∀ W f l es, IList W l vs es → Calls Tryz.prog 43 #[.pointer f, .pointer (some ⟨l, 0, none⟩)] W (Tells r W)) :
    Calls Tryz.prog 29 #[v] w (Says r w) := by
  have HF := Lib.hid hf
  have HR := Lib.hid hr
  have HOK := Lib.hid hok
  clear hf hr hok
  go_enter Tryz.func29, Tryz.ntmps29
  go_wp2_with (first
    | (go_at_call 34; refine (doorFuncs_any _).mono ?_; rintro e w1 ⟨rfl, hb1⟩; obtain ⟨c1, f1, z1, k1⟩ := box_cells (heap_new1 _ _) hb1; have pb1 := below_one hb1)
    | (go_at_call 36; refine (innerList_flat vs v _ ((HR.out.below pb1).more pb1.size) HOK.out hn).mono ?_; rintro e w2 ⟨l, es, rfl, hI, hll, hb2⟩; obtain ⟨c2, f2, z2, k2⟩ := box_cells k1 hb2; have pb2 := below_next pb1 pb1.size hb2; have HI := Lib.hid hI; clear c1 f1 hI)
    | (go_at_call 43; refine (HF.out _ _ _ _ HI.out).mono ?_; rintro e w3 ⟨g, hg, rfl, hb3⟩; obtain ⟨c3, f3, z3, k3⟩ := box_cells k2 hb3; have pb3 := below_next pb2 pb2.size hb3; have HG := Lib.hid hg; clear c2 f2 hg)
    | (go_at_call 33; refine (doorArg_any g _ HG.out.1).mono ?_; rintro e w4 ⟨rfl, hb4⟩; obtain ⟨c4, f4, z4, k4⟩ := box_cells k3 hb4; have pb4 := below_next pb3 pb3.size hb4; clear c3 f3))
  refine bodyPost_ret (v := .agg #[.int .i64 g.dk, .float .f64 g.dn, .string g.dt, .slice none 0 0]) (by simp [results, Tryz.results29, go_sem, c4]) rfl ⟨g.dn, HG.out.2.2.1, by rw [HG.out.2.1, HG.out.2.2.2], ?_⟩
  clear c4 f4
  (repeat refine below_set0 ?_ _ _)
  exact pb4
set_option maxRecDepth 100000 in
set_option maxHeartbeats 1000000 in
theorem impl_MID (vs : List FV) (r : FV) (v : Value) (w : World) (hr : Row w w.heap.size 4 v (vs.map FV.ilist)) (hok : ∀ x ∈ vs, x.ok) (hn : vs.length ≤ 1000000)
    (hf : ∀ W f l es, IList W l vs es → Calls Tryz.prog 43 #[.pointer f, .pointer (some ⟨l, 0, none⟩)] W (Tells r W)) :
    Calls Tryz.prog 14 #[v] w (Says r w) := by
  have HF := Lib.hid hf
  have HR := Lib.hid hr
  have HOK := Lib.hid hok
  have hpv : Hid (vs.map FV.ilist = (vs.map FV.pv).map PV.list) := by rw [Hid, List.map_map]; rfl
  have hl : Hid ((vs.map FV.pv).length ≤ 1000000) := by rw [Hid, List.length_map]; exact hn
  clear hf hr hok
  go_enter Tryz.func14, Tryz.ntmps14
  go_wp2_with (first
    | (go_at_call 24; refine (in_flat (vs.map FV.pv) v _ (by rw [← hpv.out]; exact (HR.out.below ((Below.refl _ _).alloc (Nat.le_refl _) _)).more (by simp)) hl.out).mono ?_; rintro e w1 ⟨v1, rfl, hR1, hb1⟩; obtain ⟨c1, f1, z1, k1⟩ := box_cells (heap_new1 _ _) hb1; have pb1 := below_one hb1; have HR1 := Lib.hid hR1; clear hR1)
    | (go_at_call 29; refine (door_MID vs r v1 _ (by rw [hpv.out]; exact HR1.out) HOK.out hn HF.out).mono ?_; rintro e w2 ⟨y, hy, rfl, hb2⟩; obtain ⟨c2, f2, z2, k2⟩ := box_cells k1 hb2; have pb2 := below_next pb1 pb1.size hb2; have HY := Lib.hid hy; clear c1 f1 hy)
    | (go_at_call 22; refine (out_one _ _ _ _).mono ?_; rintro e w3 ⟨rfl, hb3⟩; obtain ⟨c3, f3, z3, k3⟩ := box_cells k2 hb3; have pb3 := below_next pb2 pb2.size hb3; clear c2 f2))
  refine bodyPost_ret (v := .agg #[.int .i64 r.kind, .float .f64 y, .string r.text, .slice none 0 0]) (by simp [results, Tryz.results14, go_sem, c3]) rfl ⟨y, HY.out, rfl, ?_⟩
  clear c3 f3
  (repeat refine below_set0 ?_ _ _)
  exact pb3
theorem enter_MID (a : Value) (W : World) : Sem.run Tryz.prog (callFunc 14 #[a]) W = .ok (.enter 14 #[a]) W := by kernel_rfl

set_option maxRecDepth 100000 in
set_option maxHeartbeats 1000000 in
theorem door_SUBSTITUTE (vs : List FV) (r : FV) (v : Value) (w : World) (hr : Row w w.heap.size 4 v (vs.map FV.ilist)) (hok : ∀ x ∈ vs, x.ok) (hn : vs.length ≤ 1000000)
    (hf : ∀ W f l es, IList W l vs es → Calls Tryz.prog 42 #[.pointer f, .pointer (some ⟨l, 0, none⟩)] W (Tells r W)) :
    Calls Tryz.prog 28 #[v] w (Says r w) := by
  have HF := Lib.hid hf
  have HR := Lib.hid hr
  have HOK := Lib.hid hok
  clear hf hr hok
  go_enter Tryz.func28, Tryz.ntmps28
  go_wp2_with (first
    | (go_at_call 34; refine (doorFuncs_any _).mono ?_; rintro e w1 ⟨rfl, hb1⟩; obtain ⟨c1, f1, z1, k1⟩ := box_cells (heap_new1 _ _) hb1; have pb1 := below_one hb1)
    | (go_at_call 36; refine (innerList_flat vs v _ ((HR.out.below pb1).more pb1.size) HOK.out hn).mono ?_; rintro e w2 ⟨l, es, rfl, hI, hll, hb2⟩; obtain ⟨c2, f2, z2, k2⟩ := box_cells k1 hb2; have pb2 := below_next pb1 pb1.size hb2; have HI := Lib.hid hI; clear c1 f1 hI)
    | (go_at_call 42; refine (HF.out _ _ _ _ HI.out).mono ?_; rintro e w3 ⟨g, hg, rfl, hb3⟩; obtain ⟨c3, f3, z3, k3⟩ := box_cells k2 hb3; have pb3 := below_next pb2 pb2.size hb3; have HG := Lib.hid hg; clear c2 f2 hg)
    | (go_at_call 33; refine (doorArg_any g _ HG.out.1).mono ?_; rintro e w4 ⟨rfl, hb4⟩; obtain ⟨c4, f4, z4, k4⟩ := box_cells k3 hb4; have pb4 := below_next pb3 pb3.size hb4; clear c3 f3))
  refine bodyPost_ret (v := .agg #[.int .i64 g.dk, .float .f64 g.dn, .string g.dt, .slice none 0 0]) (by simp [results, Tryz.results28, go_sem, c4]) rfl ⟨g.dn, HG.out.2.2.1, by rw [HG.out.2.1, HG.out.2.2.2], ?_⟩
  clear c4 f4
  (repeat refine below_set0 ?_ _ _)
  exact pb4
set_option maxRecDepth 100000 in
set_option maxHeartbeats 1000000 in
theorem impl_SUBSTITUTE (vs : List FV) (r : FV) (v : Value) (w : World) (hr : Row w w.heap.size 4 v (vs.map FV.ilist)) (hok : ∀ x ∈ vs, x.ok) (hn : vs.length ≤ 1000000)
    (hf : ∀ W f l es, IList W l vs es → Calls Tryz.prog 42 #[.pointer f, .pointer (some ⟨l, 0, none⟩)] W (Tells r W)) :
    Calls Tryz.prog 13 #[v] w (Says r w) := by
  have HF := Lib.hid hf
  have HR := Lib.hid hr
  have HOK := Lib.hid hok
  have hpv : Hid (vs.map FV.ilist = (vs.map FV.pv).map PV.list) := by rw [Hid, List.map_map]; rfl
  have hl : Hid ((vs.map FV.pv).length ≤ 1000000) := by rw [Hid, List.length_map]; exact hn
  clear hf hr hok
  go_enter Tryz.func13, Tryz.ntmps13
  go_wp2_with (first
    | (go_at_call 24; refine (in_flat (vs.map FV.pv) v _ (by rw [← hpv.out]; exact (HR.out.below ((Below.refl _ _).alloc (Nat.le_refl _) _)).more (by simp)) hl.out).mono ?_; rintro e w1 ⟨v1, rfl, hR1, hb1⟩; obtain ⟨c1, f1, z1, k1⟩ := box_cells (heap_new1 _ _) hb1; have pb1 := below_one hb1; have HR1 := Lib.hid hR1; clear hR1)
    | (go_at_call 28; refine (door_SUBSTITUTE vs r v1 _ (by rw [hpv.out]; exact HR1.out) HOK.out hn HF.out).mono ?_; rintro e w2 ⟨y, hy, rfl, hb2⟩; obtain ⟨c2, f2, z2, k2⟩ := box_cells k1 hb2; have pb2 := below_next pb1 pb1.size hb2; have HY := Lib.hid hy; clear c1 f1 hy)
    | (go_at_call 22; refine (out_one _ _ _ _).mono ?_; rintro e w3 ⟨rfl, hb3⟩; obtain ⟨c3, f3, z3, k3⟩ := box_cells k2 hb3; have pb3 := below_next pb2 pb2.size hb3; clear c2 f2))
  refine bodyPost_ret (v := .agg #[.int .i64 r.kind, .float .f64 y, .string r.text, .slice none 0 0]) (by simp [results, Tryz.results13, go_sem, c3]) rfl ⟨y, HY.out, rfl, ?_⟩
  clear c3 f3
  (repeat refine below_set0 ?_ _ _)
  exact pb3
theorem enter_SUBSTITUTE (a : Value) (W : World) : Sem.run Tryz.prog (callFunc 13 #[a]) W = .ok (.enter 13 #[a]) W := by kernel_rfl

end Go.Proofs.YtopomonencffkaaGreatDoor

