/-
The package's BITXOR.
-/
import Derived.Test.YtededpnjijfieaaGreatDoorGestep
import Derived.Test.YtededpnjijfieaaGreatDoorFac
import Derived.WideMake
import Derived.MapKept
namespace Go.Proofs.YtededpnjijfieaaGreatDoor
open Go.RowKit Go.Fl

/-- A map literal's next entry. -/
theorem run_mapLit {P : Program} (W : World) (mty kt et : TypeId) (es : Array MapEntry) (k : Nat) (s : ByteArray) (val : Value) (b : Nat) (hb : b = W.heap.size) (hm : P.underlying mty = some (.map kt et)) (hk : P.underlying kt = some .string)
    (hf : Instr.findNow .string (.string s) es.toList 0 = some none) :
    (Instr.mapUpdate mty (.map (some b)) (.string s) val).run P (W.alloc (.map es k)) = .ok () (W.alloc (.map (es.push { key := .string s, val := val, born := k }) (k + 1))) := by
  subst hb
  have h0 : (W.alloc (.map es k)).heap[W.heap.size]? = some (.map es k) := heap_alloc_new W _
  have hc : (Instr.checkKey false 10000 kt (.string s)).run P (W.alloc (.map es k)) = .ok () (W.alloc (.map es k)) := MapKept.run_checkKey (k := .string s) hk (by simp [MapKept.IsKey]) false 9999
  have hw : ∀ o o' : Obj, (W.heap.push o).setIfInBounds W.heap.size o' = W.heap.push o' := fun o o' => by
    apply Array.ext_getElem?
    intro i
    rw [Array.getElem?_setIfInBounds, Array.getElem?_push, Array.getElem?_push, Array.size_push]
    by_cases h : i = W.heap.size
    · subst h; simp
    · rw [if_neg (fun e => h e.symm), if_neg h, if_neg h]
  simp [Instr.mapUpdate, run_underlying hm, MapKept.run_getObj_map h0, hc, MapKept.run_findKey hk hf, MapKept.run_setObj_map _ h0, Result.andThen]
  unfold World.alloc
  simp [hw]

theorem run_mapHit {P : Program} (w : World) (mty kt et : TypeId) (es : Array MapEntry) (k : Nat) (s : ByteArray) (r i : Nat) (val : Value) (h0 : w.heap[r]? = some (.map es k)) (hm : P.underlying mty = some (.map kt et)) (hk : P.underlying kt = some .string)
    (hf : Instr.findNow .string (.string s) es.toList 0 = some (some (i, val))) :
    (Instr.lookup mty (.map (some r)) (.string s) false).run P w = .ok val w := by
  have hc : (Instr.checkKey es.isEmpty 10000 kt (.string s)).run P w = .ok () w := MapKept.run_checkKey (k := .string s) hk (by simp [MapKept.IsKey]) es.isEmpty 9999
  simp [Instr.lookup, run_underlying hm, MapKept.run_getObj_map h0, hc, MapKept.run_findKey hk hf, Result.andThen]

theorem later3 {w2 : World} {g : Nat} {o A B C : Obj} (h : w2.heap[g]? = some o) : (((w2.alloc A).alloc B).alloc C).heap[g]? = some o := by
  have hl := heap_lt h
  rw [Below.heap_alloc _ C g (by simp; omega), Below.heap_alloc _ B g (by simp; omega), Below.heap_alloc _ A g hl]
  exact h
theorem below3 {B : Nat} {w w2 w4 : World} {A1 A2 A3 : Obj} (h : Below B w w2) (hB : B ≤ w2.heap.size) (h4 : Below (((w2.alloc A1).alloc A2).alloc A3).heap.size (((w2.alloc A1).alloc A2).alloc A3) w4) : Below B w w4 :=
  (((h.alloc hB _).alloc (by simp; omega) _).alloc (by simp; omega) _).trans (h4.mono (by simp; omega))

/-- The greatest number that is let in: 2^48 - 1. -/
theorem Sx.max48 : Sx 4823355200913801184 (16 * 281474976710655) := by
  have h := floatOfInt_sx 281474976710655 (by omega) (by omega)
  have e : floatOfInt .f64 281474976710655 = 4823355200913801184 := by kernel_rfl
  rw [e] at h
  rw [h]
  exact Sx.sx (by omega) (by omega)

theorem xorFn (a b : Int) (w : World) :
    Calls Tryz.prog 156 #[.int .i64 a, .int .i64 b] w fun e w' => e = .returned (.int .i64 (bits .xor .i64 a b)) ∧ w = w' := by
  go_enter Tryz.func156, Tryz.ntmps156
  go_wp2
  go_ret
  exact ⟨rfl, rfl⟩
theorem enter_xorFn (a b : Value) (W : World) : Sem.run Tryz.prog (callFunc 156 #[a, b]) W = .ok (.enter 156 #[a, b]) W := by kernel_rfl

/-- What is asked of two whole numbers' list, laid open. -/
theorem bitxor_inner {n k : Int} {g g' : GA} (h : Inner ⟨1, n, 1, ⟨#[]⟩⟩ g) (h' : Inner ⟨1, k, 1, ⟨#[]⟩⟩ g') :
    (∃ y, Sx y (16 * n) ∧ g = ⟨y, ⟨#[]⟩, false, ⟨#[]⟩, 1⟩) ∧ (∃ y, Sx y (16 * k) ∧ g' = ⟨y, ⟨#[]⟩, false, ⟨#[]⟩, 1⟩) := by
  obtain ⟨y, hy, e⟩ := h.1 rfl
  obtain ⟨y', hy', e'⟩ := h'.1 rfl
  have s1 : ∀ m : Int, (⟨1, m, 1, ⟨#[]⟩⟩ : FV).six = 16 * m := fun m => by unfold FV.six; simp; omega
  rw [s1] at hy hy'
  exact ⟨⟨y, hy, e⟩, ⟨y', hy', e'⟩⟩

set_option maxRecDepth 100000 in
set_option maxHeartbeats 2000000 in
theorem bitwise_pos (n k : Int) (l : Nat) (es : List (Nat × Value)) (f : Option Addr) (w : World) (hn : 0 ≤ n) (hk : 0 ≤ k) (hn2 : n ≤ 99999999999) (hk2 : k ≤ 99999999999) (hX : bits .xor .i64 n k ≤ 99999999999) (hX2 : -99999999999 ≤ bits .xor .i64 n k) (hI : IList w l [⟨1, n, 1, ⟨#[]⟩⟩, ⟨1, k, 1, ⟨#[]⟩⟩] es) :
    Calls Tryz.prog 75 #[.pointer f, .string ⟨#[66, 73, 84, 88, 79, 82]⟩, .pointer (some ⟨l, 0, none⟩)] w
      fun e w' => (∃ y, Sx y (16 * bits .xor .i64 n k) ∧ e = .returned (.agg #[.string ⟨#[]⟩, .float .f64 y, .string ⟨#[]⟩, .slice none 0 0, .slice none 0 0, .bool false, .string ⟨#[]⟩, .int .u8 1, .pointer none, .pointer none])) ∧ Below w.heap.size w w' := by
  have hu80 := Tryz.underlying65
  have hta := assertArg
  obtain ⟨e, g, e', g', hlen, hg, hg', hnx, hpv, hcell, hcell'⟩ := hI.two
  obtain ⟨⟨y, hy, rfl⟩, ⟨y', hy', rfl⟩⟩ := bitxor_inner hg hg'
  obtain ⟨ce, fe, ze⟩ := row_facts hcell
  have HR := Lib.hid hI.ring
  have HN := Lib.hid hnx
  have HP := Lib.hid hpv
  have HY := Lib.hid hy
  have HY' := Lib.hid hy'
  have HLen := Lib.hid hlen
  have HR1 : Hid (∀ W, Below w.heap.size w W → Ring W l es) := fun W hW => hI.ring.below hW
  have CE : Hid (∀ W, Below w.heap.size w W → (∀ j, W.cell? ⟨e', j, none⟩ = (#[Value.pointer (some ⟨l, 0, none⟩), .pointer (some ⟨e, 0, none⟩), .pointer (some ⟨l, 0, none⟩), .iface 65 (.agg #[.string ⟨#[]⟩, .float .f64 y', .string ⟨#[]⟩, .slice none 0 0, .slice none 0 0, .bool false, .string ⟨#[]⟩, .int .u8 1, .pointer none, .pointer none])] : Array Value)[j]?) ∧ e' < W.heap.size) :=
    fun W hW => by
      have hz := heap_lt hcell'
      obtain ⟨k1, k2, k3⟩ := row_facts ((hW.block e' hz).trans hcell')
      exact ⟨k1, k3⟩
  have FA : Hid (∀ (z : Nat) (m : Int), Sx z (16 * m) → 0 ≤ m → m ≤ 99999999999 → (FloatKind.f64.format.order z 0 == some .lt) = false ∧ (FloatKind.f64.format.order z 4823355200913801184 == some .gt) = false ∧ ∀ w, (convert 41 3 (.float .f64 z)).run Tryz.prog w = .ok (.int .i64 m) w) := by
    intro z m hz h1 h2
    refine ⟨(Sx.lt_ hz Sx.zero).trans (by simp; omega), (Sx.gt_ hz Sx.max48).trans (by simp; omega), fun w => ?_⟩
    have h := conv_sx hz (by omega) (by omega) w
    have e1 : (16 * m).tdiv 16 = m := Int.mul_tdiv_cancel_left _ (by omega)
    rwa [e1] at h
  have BN : Hid (0 ≤ n ∧ n ≤ 99999999999 ∧ 0 ≤ k ∧ k ≤ 99999999999) := ⟨hn, hn2, hk, hk2⟩
  have hE5 := enter_xorFn
  have hfi := floatOfInt_sx (bits .xor .i64 n k) (by omega) (by omega)
  have HSX : Hid (Sx (sx (16 * bits .xor .i64 n k)) (16 * bits .xor .i64 n k)) := Sx.sx (by omega) (by omega)
  have hmk : ∀ (t : TypeId) (W : World), (Instr.makeMap t none).run Tryz.prog W = .ok (.map (some W.heap.size)) (W.alloc (.map #[] 0)) := fun t W => run_makeMap_plain W t
  have pb := Below.refl w.heap.size w
  clear hI hg hg' hnx hpv hcell hcell' hy hy' hlen hn hn2 hk hk2
  go_enter Tryz.func75, Tryz.ntmps75
  go_wp2_with (first
    | (go_at_call 63; refine (len_any _ (HR1.out _ (pb.alloc pb.size _))).mono ?_; rintro e w1 ⟨rfl, rfl⟩; rw [HLen.out])
    | (go_at_call 65; refine (front_some _ (HR1.out _ (pb.alloc pb.size _)) (by rw [HLen.out]; omega)).mono ?_; rintro e w1 ⟨rfl, rfl⟩; rw [HN.out])
    | (go_at_call 66; refine (toNumber_num y _ _ _ _ _ HY.out).mono ?_; rintro e w1 ⟨z, hz, rfl, hb1⟩; obtain ⟨c1, f1, z1, k1⟩ := box_cells (heap_new1 _ _) hb1; have pb1 := below_one hb1; obtain ⟨fa1, fa2, fa3⟩ := FA.out z n hz BN.out.1 BN.out.2.1; clear hz c1 f1 ce fe ze))
  go_wp2_with (first
    | (go_at_call 74; refine (back_some _ (HR1.out _ pb1) (by rw [HLen.out]; omega)).mono ?_; rintro e w3 ⟨rfl, rfl⟩; rw [HP.out]; obtain ⟨ce', ze'⟩ := CE.out w1 pb1)
    | (go_at_call 66; refine (toNumber_num y' _ _ _ _ _ HY'.out).mono ?_; rintro e w2 ⟨z', hz', rfl, hb2⟩; have k2 := (hb2.block _ z1).trans k1; have pb2 := below_next pb1 pb1.size hb2; obtain ⟨fb1, fb2, fb3⟩ := FA.out z' k hz' BN.out.2.2.1 BN.out.2.2.2; clear hz' ce' ze'))
  rw [run_mapLit _ 125 9 123 _ _ _ _ _ ?_ Tryz.underlying125 Tryz.underlying9 ?_]
  rotate_left
  · simp
  · rfl
  go_wp2_with fail
  rw [run_mapLit _ 125 9 123 _ _ _ _ _ ?_ Tryz.underlying125 Tryz.underlying9 ?_]
  rotate_left
  · simp
  · rfl
  go_wp2_with fail
  rw [run_mapLit _ 125 9 123 _ _ _ _ _ ?_ Tryz.underlying125 Tryz.underlying9 ?_]
  rotate_left
  · simp
  · rfl
  go_wp2_with fail
  rw [run_mapLit _ 125 9 123 _ _ _ _ _ ?_ Tryz.underlying125 Tryz.underlying9 ?_]
  rotate_left
  · simp
  · rfl
  go_wp2_with fail
  rw [run_mapLit _ 125 9 123 _ _ _ _ _ ?_ Tryz.underlying125 Tryz.underlying9 ?_]
  rotate_left
  · simp
  · rfl
  go_wp2_with fail
  rw [run_mapHit _ 125 9 123 _ _ _ _ 4 (.func (.func 156) #[] #[]) (heap_new3c _ _ _ _) Tryz.underlying125 Tryz.underlying9 rfl]
  go_wp2_with fail
  refine (xorFn n k _).mono ?_
  rintro e w3 ⟨rfl, rfl⟩
  go_wp2_with (go_at_call 72; refine (newNum_any _ (16 * bits .xor .i64 n k) _ HSX.out).mono ?_; rintro e w4 ⟨z4, hz4, rfl, hb4⟩; obtain ⟨c4, f4, z5, k4⟩ := box_cells (later3 k2) hb4; have pb4 := below3 pb2 pb2.size hb4; have HZ4 := Lib.hid hz4; clear hz4)
  refine bodyPost_ret (v := .agg #[.string ⟨#[]⟩, .float .f64 z4, .string ⟨#[]⟩, .slice none 0 0, .slice none 0 0, .bool false, .string ⟨#[]⟩, .int .u8 1, .pointer none, .pointer none]) (by simp [results, Tryz.results75, go_sem, c4]) rfl ⟨⟨z4, HZ4.out, rfl⟩, ?_⟩
  clear c4 f4
  (repeat refine below_set0 ?_ _ _)
  exact pb4

theorem later2 {w2 : World} {g : Nat} {o A B : Obj} (h : w2.heap[g]? = some o) : ((w2.alloc A).alloc B).heap[g]? = some o := by
  have hl := heap_lt h
  rw [Below.heap_alloc _ B g (by simp; omega), Below.heap_alloc _ A g hl]
  exact h
theorem below2 {B : Nat} {w w2 w4 : World} {A1 A2 : Obj} (h : Below B w w2) (hB : B ≤ w2.heap.size) (h4 : Below ((w2.alloc A1).alloc A2).heap.size ((w2.alloc A1).alloc A2) w4) : Below B w w4 :=
  ((h.alloc hB _).alloc (by simp; omega) _).trans (h4.mono (by simp; omega))

set_option maxRecDepth 100000 in
set_option maxHeartbeats 2000000 in
theorem bitwise_neg1 (n k : Int) (l : Nat) (es : List (Nat × Value)) (f : Option Addr) (w : World) (hn : n < 0) (hI : IList w l [⟨1, n, 1, ⟨#[]⟩⟩, ⟨1, k, 1, ⟨#[]⟩⟩] es) :
    Calls Tryz.prog 75 #[.pointer f, .string ⟨#[66, 73, 84, 88, 79, 82]⟩, .pointer (some ⟨l, 0, none⟩)] w
      fun e w' => e = .returned (.agg #[.string ⟨#[]⟩, .float .f64 0, .string eNUM, .slice none 0 0, .slice none 0 0, .bool false, .string eNUM, .int .u8 5, .pointer none, .pointer none]) ∧ Below w.heap.size w w' := by
  have hu80 := Tryz.underlying65
  have hta := assertArg
  obtain ⟨e, g, e', g', hlen, hg, hg', hnx, hpv, hcell, hcell'⟩ := hI.two
  obtain ⟨⟨y, hy, rfl⟩, ⟨y', hy', rfl⟩⟩ := bitxor_inner hg hg'
  obtain ⟨ce, fe, ze⟩ := row_facts hcell
  have HR := Lib.hid hI.ring
  have HN := Lib.hid hnx
  have HP := Lib.hid hpv
  have HY := Lib.hid hy
  have HY' := Lib.hid hy'
  have HLen := Lib.hid hlen
  have HR1 : Hid (∀ W, Below w.heap.size w W → Ring W l es) := fun W hW => hI.ring.below hW
  have CE : Hid (∀ W, Below w.heap.size w W → (∀ j, W.cell? ⟨e', j, none⟩ = (#[Value.pointer (some ⟨l, 0, none⟩), .pointer (some ⟨e, 0, none⟩), .pointer (some ⟨l, 0, none⟩), .iface 65 (.agg #[.string ⟨#[]⟩, .float .f64 y', .string ⟨#[]⟩, .slice none 0 0, .slice none 0 0, .bool false, .string ⟨#[]⟩, .int .u8 1, .pointer none, .pointer none])] : Array Value)[j]?) ∧ e' < W.heap.size) :=
    fun W hW => by
      have hz := heap_lt hcell'
      obtain ⟨k1, k2, k3⟩ := row_facts ((hW.block e' hz).trans hcell')
      exact ⟨k1, k3⟩
  have pb := Below.refl w.heap.size w
  clear hI hg hg' hnx hpv hcell hcell' hy hy' hlen
  go_enter Tryz.func75, Tryz.ntmps75
  go_wp2_with (first
    | (go_at_call 63; refine (len_any _ (HR1.out _ (pb.alloc pb.size _))).mono ?_; rintro e w1 ⟨rfl, rfl⟩; rw [HLen.out])
    | (go_at_call 65; refine (front_some _ (HR1.out _ (pb.alloc pb.size _)) (by rw [HLen.out]; omega)).mono ?_; rintro e w1 ⟨rfl, rfl⟩; rw [HN.out])
    | (go_at_call 66; refine (toNumber_num y _ _ _ _ _ HY.out).mono ?_; rintro e w1 ⟨z, hz, rfl, hb1⟩; obtain ⟨c1, f1, z1, k1⟩ := box_cells (heap_new1 _ _) hb1; have pb1 := below_one hb1; have fa1 : (FloatKind.f64.format.order z 0 == some .lt) = true := (Sx.lt_ hz Sx.zero).trans (by simp; omega); clear hz c1 f1 ce fe ze))
  go_wp2_with (first
    | (go_at_call 74; refine (back_some _ (HR1.out _ pb1) (by rw [HLen.out]; omega)).mono ?_; rintro e w3 ⟨rfl, rfl⟩; rw [HP.out]; obtain ⟨ce', ze'⟩ := CE.out w1 pb1)
    | (go_at_call 66; refine (toNumber_num y' _ _ _ _ _ HY'.out).mono ?_; rintro e w2 ⟨z', hz', rfl, hb2⟩; have k2 := (hb2.block _ z1).trans k1; have pb2 := below_next pb1 pb1.size hb2; clear hz' ce' ze')
    | (go_at_call 64; refine (newErr_any _ _ _).mono ?_; rintro e w4 ⟨rfl, hb4⟩; obtain ⟨c4, f4, z5, k4⟩ := box_cells (later2 k2) hb4; have pb4 := below2 pb2 pb2.size hb4))
  refine bodyPost_ret (v := .agg #[.string ⟨#[]⟩, .float .f64 0, .string eNUM, .slice none 0 0, .slice none 0 0, .bool false, .string eNUM, .int .u8 5, .pointer none, .pointer none]) (by simp [results, Tryz.results75, go_sem, c4, eNUM]) rfl ⟨rfl, ?_⟩
  clear c4 f4
  (repeat refine below_set0 ?_ _ _)
  exact pb4

set_option maxRecDepth 100000 in
set_option maxHeartbeats 2000000 in
theorem bitwise_neg2 (n k : Int) (l : Nat) (es : List (Nat × Value)) (f : Option Addr) (w : World) (hn : 0 ≤ n) (hn2 : n ≤ 99999999999) (hk : k < 0) (hI : IList w l [⟨1, n, 1, ⟨#[]⟩⟩, ⟨1, k, 1, ⟨#[]⟩⟩] es) :
    Calls Tryz.prog 75 #[.pointer f, .string ⟨#[66, 73, 84, 88, 79, 82]⟩, .pointer (some ⟨l, 0, none⟩)] w
      fun e w' => e = .returned (.agg #[.string ⟨#[]⟩, .float .f64 0, .string eNUM, .slice none 0 0, .slice none 0 0, .bool false, .string eNUM, .int .u8 5, .pointer none, .pointer none]) ∧ Below w.heap.size w w' := by
  have hu80 := Tryz.underlying65
  have hta := assertArg
  obtain ⟨e, g, e', g', hlen, hg, hg', hnx, hpv, hcell, hcell'⟩ := hI.two
  obtain ⟨⟨y, hy, rfl⟩, ⟨y', hy', rfl⟩⟩ := bitxor_inner hg hg'
  obtain ⟨ce, fe, ze⟩ := row_facts hcell
  have HR := Lib.hid hI.ring
  have HN := Lib.hid hnx
  have HP := Lib.hid hpv
  have HY := Lib.hid hy
  have HY' := Lib.hid hy'
  have HLen := Lib.hid hlen
  have HR1 : Hid (∀ W, Below w.heap.size w W → Ring W l es) := fun W hW => hI.ring.below hW
  have CE : Hid (∀ W, Below w.heap.size w W → (∀ j, W.cell? ⟨e', j, none⟩ = (#[Value.pointer (some ⟨l, 0, none⟩), .pointer (some ⟨e, 0, none⟩), .pointer (some ⟨l, 0, none⟩), .iface 65 (.agg #[.string ⟨#[]⟩, .float .f64 y', .string ⟨#[]⟩, .slice none 0 0, .slice none 0 0, .bool false, .string ⟨#[]⟩, .int .u8 1, .pointer none, .pointer none])] : Array Value)[j]?) ∧ e' < W.heap.size) :=
    fun W hW => by
      have hz := heap_lt hcell'
      obtain ⟨k1, k2, k3⟩ := row_facts ((hW.block e' hz).trans hcell')
      exact ⟨k1, k3⟩
  have pb := Below.refl w.heap.size w
  clear hI hg hg' hnx hpv hcell hcell' hy hy' hlen
  go_enter Tryz.func75, Tryz.ntmps75
  go_wp2_with (first
    | (go_at_call 63; refine (len_any _ (HR1.out _ (pb.alloc pb.size _))).mono ?_; rintro e w1 ⟨rfl, rfl⟩; rw [HLen.out])
    | (go_at_call 65; refine (front_some _ (HR1.out _ (pb.alloc pb.size _)) (by rw [HLen.out]; omega)).mono ?_; rintro e w1 ⟨rfl, rfl⟩; rw [HN.out])
    | (go_at_call 66; refine (toNumber_num y _ _ _ _ _ HY.out).mono ?_; rintro e w1 ⟨z, hz, rfl, hb1⟩; obtain ⟨c1, f1, z1, k1⟩ := box_cells (heap_new1 _ _) hb1; have pb1 := below_one hb1; have fa1 : (FloatKind.f64.format.order z 0 == some .lt) = false := (Sx.lt_ hz Sx.zero).trans (by simp; omega); have fa2 : (FloatKind.f64.format.order z 4823355200913801184 == some .gt) = false := (Sx.gt_ hz Sx.max48).trans (by simp; omega); clear hz c1 f1 ce fe ze))
  go_wp2_with (first
    | (go_at_call 74; refine (back_some _ (HR1.out _ pb1) (by rw [HLen.out]; omega)).mono ?_; rintro e w3 ⟨rfl, rfl⟩; rw [HP.out]; obtain ⟨ce', ze'⟩ := CE.out w1 pb1)
    | (go_at_call 66; refine (toNumber_num y' _ _ _ _ _ HY'.out).mono ?_; rintro e w2 ⟨z', hz', rfl, hb2⟩; have k2 := (hb2.block _ z1).trans k1; have pb2 := below_next pb1 pb1.size hb2; have fb1 : (FloatKind.f64.format.order z' 0 == some .lt) = true := (Sx.lt_ hz' Sx.zero).trans (by simp; omega); clear hz' ce' ze')
    | (go_at_call 64; refine (newErr_any _ _ _).mono ?_; rintro e w4 ⟨rfl, hb4⟩; obtain ⟨c4, f4, z5, k4⟩ := box_cells (later2 k2) hb4; have pb4 := below2 pb2 pb2.size hb4))
  refine bodyPost_ret (v := .agg #[.string ⟨#[]⟩, .float .f64 0, .string eNUM, .slice none 0 0, .slice none 0 0, .bool false, .string eNUM, .int .u8 5, .pointer none, .pointer none]) (by simp [results, Tryz.results75, go_sem, c4, eNUM]) rfl ⟨rfl, ?_⟩
  clear c4 f4
  (repeat refine below_set0 ?_ _ _)
  exact pb4

set_option maxRecDepth 100000 in
set_option maxHeartbeats 2000000 in
/-- 'BITXOR' hands on what 'bitwise' says. -/
theorem BITXOR_fn (Q : GA → Prop) (l : Nat) (f : Option Addr) (w : World)
    (hC : ∀ W, Below w.heap.size w W → Calls Tryz.prog 75 #[.pointer f, .string ⟨#[66, 73, 84, 88, 79, 82]⟩, .pointer (some ⟨l, 0, none⟩)] W fun e w' => ∃ g, Q g ∧ e = .returned (.agg #[.string ⟨#[]⟩, .float .f64 g.num, .string g.str, .slice none 0 0, .slice none 0 0, .bool g.bool, .string g.err, .int .u8 g.type, .pointer none, .pointer none]) ∧ Below W.heap.size W w') :
    Calls Tryz.prog 51 #[.pointer f, .pointer (some ⟨l, 0, none⟩)] w fun e w' => ∃ g, Q g ∧ e = .returned (.agg #[.string ⟨#[]⟩, .float .f64 g.num, .string g.str, .slice none 0 0, .slice none 0 0, .bool g.bool, .string g.err, .int .u8 g.type, .pointer none, .pointer none]) ∧ Below w.heap.size w w' := by
  have HC := Lib.hid hC
  have hu80 := Tryz.underlying65
  clear hC
  go_enter Tryz.func51, Tryz.ntmps51
  go_wp2_with (go_at_call 75; refine (HC.out _ ((Below.refl _ _).alloc (Nat.le_refl _) _)).mono ?_; rintro e w1 ⟨g, hg, rfl, hb1⟩; have HG := Lib.hid hg; obtain ⟨c1, f1, z1, k1⟩ := box_cells (heap_new1 _ _) hb1; clear hg)
  refine bodyPost_ret (v := .agg #[.string ⟨#[]⟩, .float .f64 g.num, .string g.str, .slice none 0 0, .slice none 0 0, .bool g.bool, .string g.err, .int .u8 g.type, .pointer none, .pointer none]) (by simp [results, Tryz.results51, go_sem, c1]) rfl ⟨g, HG.out, rfl, ?_⟩
  have pb := below_one hb1
  clear c1 f1
  (repeat refine below_set0 ?_ _ _)
  exact pb

end Go.Proofs.YtededpnjijfieaaGreatDoor
