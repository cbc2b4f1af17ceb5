/-
PRODUCT of the reference, of arguments whose first one is a table.
-/
import Derived.Test.YtkglbccdiofnkaaGreatDoorFold
import Derived.Test.YtkglbccdiofnkaaGreatDoorNoProduct
import Derived.Test.YtkglbccdiofnkaaGreatDoorFitsO
namespace Go.Proofs.YtkglbccdiofnkaaGreatDoor
open Go.RowKit

def prodF (l : List FV) : FV := if l = [] then ⟨6, 0, 0, ⟨#[]⟩⟩ else prodV l
theorem prodF_ok (l : List FV) (_h : ∀ x ∈ l, x.ok ∧ x.kind = 1) : (prodF l).ok := by
  unfold prodF
  split
  · exact doubt_ok
  · exact prodV_ok l

set_option maxRecDepth 100000 in
set_option maxHeartbeats 2000000 in
theorem productOf_any (l : List FV) (v : Value) (w : World) (hr : Row w w.heap.size 5 v (l.map FV.list)) (hok : ∀ x ∈ l, x.ok ∧ x.kind = 1) (hn : l.length ≤ 1000000) :
    Calls Tryz.prog 92 #[v] w fun e w' => e = .returned (.agg #[.int .i64 (prodF l).kind, .int .i64 (prodF l).num, .int .i64 (prodF l).den, .string (prodF l).text, .slice none 0 0]) ∧ Below w.heap.size w w' := by
  have hu26 := Tryz.underlying31
  obtain ⟨A, c, rfl, hc1, hc2, hc3⟩ := hr
  rw [List.length_map] at hc1 hc3 ⊢
  by_cases h0 : l = []
  · subst h0
    have e : prodF [] = ⟨6, 0, 0, ⟨#[]⟩⟩ := rfl
    rw [e]
    clear hok hc3 hc2
    go_enter Tryz.func92, Tryz.ntmps92
    go_wp2_with (go_at_call 34; refine (doubt_any _).mono ?_; rintro e w1 ⟨rfl, hb1⟩; obtain ⟨c1, f1, z1, k1⟩ := box_cells (heap_new1 _ _) hb1)
    refine bodyPost_ret (v := .agg #[.int .i64 6, .int .i64 0, .int .i64 0, .string ⟨#[]⟩, .slice none 0 0]) (by simp [results, Tryz.results92, go_sem, c1]) rfl ⟨rfl, ?_⟩
    exact set5 (below_one hb1) _ _ _ _ _
  · have e : prodF l = prodV l := by unfold prodF; rw [if_neg h0]
    rw [e]
    have hlen : ¬ l.length = 0 := fun h => h0 (List.eq_nil_of_length_eq_zero h)
    have HOK := Lib.hid hok
    clear hok e h0
    go_enter Tryz.func92, Tryz.ntmps92
    go_wp2_with (go_at_call 15; refine (int_small 1 _ (by omega) (by omega)).mono ?_; rintro e w1 ⟨rfl, hb1⟩; obtain ⟨c1, f1, z1, k1⟩ := box_cells (heap_new1 _ _) hb1)
    obtain ⟨W1, hW1⟩ : ∃ W1 : World, W1 = w1.alloc (.cells #[.int .i64 1, .int .i64 1, .int .i64 1, .string ⟨#[]⟩, .slice none 0 0] 31) := ⟨_, rfl⟩
    have HW1 := Lib.hid hW1.symm
    have hK1 : W1.heap[w1.heap.size]? = some (.cells #[.int .i64 1, .int .i64 1, .int .i64 1, .string ⟨#[]⟩, .slice none 0 0] 31) := by rw [hW1]; exact heap_new1 _ _
    have hZ1 : W1.heap[w.heap.size]? = some (.cells #[.int .i64 0, .int .i64 0, .int .i64 0, .string ⟨#[]⟩, .slice none 0 0] 31) := by rw [hW1]; exact (Below.heap_alloc _ _ _ z1).trans k1
    have pb1 := below_one hb1
    have hB1 : Below w.heap.size w W1 := by rw [hW1]; exact pb1.alloc pb1.size _
    have hS1 : w1.heap.size < W1.heap.size := by rw [hW1]; simp
    have HI := Lib.hid (And.intro hK1 (And.intro hZ1 (And.intro hB1 hS1)))
    have HG1 : Hid (w.heap.size < w1.heap.size) := z1
    clear hK1 hZ1 hB1 hS1 hW1 c1 f1 z1 k1 pb1 hb1
    go_loopw [4] (fun i wr => ∃ k : Nat, k ≤ l.length ∧ i = .int .i64 k ∧ wr.heap[w1.heap.size]? = some (.cells #[.int .i64 (prodV (l.take k)).kind, .int .i64 (prodV (l.take k)).num, .int .i64 (prodV (l.take k)).den, .string (prodV (l.take k)).text, .slice none 0 0] 31) ∧ wr.heap[w.heap.size]? = some (.cells #[.int .i64 0, .int .i64 0, .int .i64 0, .string ⟨#[]⟩, .slice none 0 0] 31) ∧ Below w.heap.size w wr ∧ w1.heap.size < wr.heap.size) (fun i _ => l.length - (intOf i).toNat)
    case atStart =>
      rw [HW1.out]
      exact ⟨0, Nat.zero_le _, rfl, HI.out.1, HI.out.2.1, HI.out.2.2.1, HI.out.2.2.2⟩
    case round =>
      obtain ⟨k, hk1, rfl, kb, kz, hb, hsz⟩ := hrel
      obtain ⟨P, hP⟩ : ∃ P, P = prodV (l.take k) := ⟨_, rfl⟩
      rw [← hP] at kb
      obtain ⟨cb, fb, zb⟩ := row_facts kb
      have b0 := cb 0
      have b1 := cb 1
      have b2 := cb 2
      have b3 := cb 3
      have b4 := cb 4
      simp at b0 b1 b2 b3 b4
      have KB := Lib.hid kb
      have KZ := Lib.hid kz
      have HB := Lib.hid hb
      have HPo : Hid P.ok := by rw [Hid, hP]; exact prodV_ok _
      by_cases hlt : k < l.length
      · obtain ⟨g, o, rfl, hg, hcell⟩ := hc3 (by omega)
        obtain ⟨x, hxk⟩ : ∃ x, l[k]? = some x := ⟨_, List.getElem?_eq_getElem hlt⟩
        have hmem := List.mem_of_getElem? hxk
        have hx : (l.map FV.list)[k]? = some (FV.list x) := by rw [List.getElem?_map, hxk]; rfl
        have q : ∀ j u, (FV.list x)[j]? = some u → wr.cell? ⟨g, o + k * 5 + j, none⟩ = some u := fun j u hu => (hb.cell (p := ⟨g, o + k * 5 + j, none⟩) hg).trans (hcell k _ hx j u hu)
        have q0 := q 0 _ rfl
        have q1 := q 1 _ rfl
        have q2 := q 2 _ rfl
        have q3 := q 3 _ rfl
        have q4 := q 4 _ rfl
        simp only [Nat.add_zero] at q0
        obtain ⟨R, hR⟩ : ∃ R, R = mulV P x := ⟨_, rfl⟩
        have HR : Hid (prodV (l.take (k + 1)) = R) := by rw [Hid, take_snoc l k x hxk, prodV_snoc, ← hP, hR]
        have HMUL : Hid (∀ W, Calls Tryz.prog 192 #[.agg #[.int .i64 P.kind, .int .i64 P.num, .int .i64 P.den, .string P.text, .slice none 0 0], .agg #[.int .i64 x.kind, .int .i64 x.num, .int .i64 x.den, .string x.text, .slice none 0 0]] W fun e w' => e = .returned (.agg #[.int .i64 R.kind, .int .i64 R.num, .int .i64 R.den, .string R.text, .slice none 0 0]) ∧ Below W.heap.size W w') := by
          rw [hR]; exact fun W => mul_any P x W HPo.out (HOK.out x hmem).1
        have HK : Hid (k < l.length) := hlt
        clear q hx hxk hcell hc3 hc2 hmem hP hR kb kz hb cb
        go_wp2
        go_region_law (go_simp; go_at_call 192; refine (HMUL.out _).mono ?_; rintro e w2 ⟨rfl, hb2⟩; have hb2 := Below.ofDrew hb2; obtain ⟨cy, fy, zy, ky⟩ := box_cells KB.out hb2)
        all_goals go_wp2
        all_goals
          have hlt := HK.out
          have hs2 := hb2.size
          refine ⟨⟨k + 1, by omega, by go_num, ?_, ?_, ?_, ?_⟩, ?_⟩
          · rw [HR.out]; exact box5 ky _ _ _ _ _
          · have hne : w.heap.size ≠ w1.heap.size := by have := HG1.out; omega
            exact (Below.heap_setCell _ _ _ _ hne).trans ((Below.heap_setCell _ _ _ _ hne).trans ((Below.heap_setCell _ _ _ _ hne).trans ((Below.heap_setCell _ _ _ _ hne).trans ((Below.heap_setCell _ _ _ _ hne).trans ((hb2.block _ (Nat.lt_trans HG1.out hsz)).trans KZ.out)))))
          · have hle : w.heap.size ≤ w1.heap.size := Nat.le_of_lt HG1.out
            have pb := HB.out.trans (hb2.mono HB.out.size)
            (repeat refine below_setN ?_ hle _ _)
            exact pb
          · simp only [World.setCell, Array.size_modify]; omega
          · simp [intOf]; omega
      · obtain rfl : k = l.length := by omega
        rw [List.take_length] at hP
        have HP := Lib.hid hP
        obtain ⟨cz, fz, zz⟩ := row_facts kz
        clear hP kb kz hb cb
        go_wp2
        refine bodyPost_ret (v := .agg #[.int .i64 P.kind, .int .i64 P.num, .int .i64 P.den, .string P.text, .slice none 0 0]) (by simp [results, Tryz.results92, go_sem, cz]) rfl ⟨by rw [HP.out], ?_⟩
        exact set5 HB.out _ _ _ _ _

theorem enter_productOf (a : Value) (W : World) : Sem.run Tryz.prog (callFunc 92 #[a]) W = .ok (.enter 92 #[a]) W := by kernel_rfl

set_option maxRecDepth 100000 in
theorem numeric_tbl (A : Option Addr) (n c : Nat) (w : World) :
    Calls Tryz.prog 171 #[.agg #[.int .i64 5, .int .i64 0, .int .i64 0, .string ⟨#[]⟩, .slice A n c]] w fun e w' => e = .returned (.bool false) ∧ Below w.heap.size w w' := by
  go_enter Tryz.func171, Tryz.ntmps171
  go_wp2
  go_ret
  exact ⟨rfl, (Below.refl _ _).alloc (Nat.le_refl _) _⟩

set_option maxRecDepth 100000 in
set_option maxHeartbeats 1000000 in
/-- 'every(args, numeric)' where the first argument is a table. -/
theorem every_tbl (al : List Arg) (rows : List (List FV)) (bl : List Arg) (hal : al = .tbl rows :: bl) (v : Value) (w : World) (hr : ARow w w.heap.size v al) (_hn : al.length ≤ 1000000) :
    Calls Tryz.prog 170 #[v, .func (.func 171) #[] #[]] w fun e w' => (∃ b, e = .returned (.bool b)) ∧ Below w.heap.size w w' := by
  have hu26 := Tryz.underlying31
  obtain ⟨g, o, c, x, rfl, hc, hg, hx, hcell⟩ := hr.at_ (i := 0) (a := .tbl rows) (by rw [hal]; rfl)
  obtain ⟨rv, rfl, hT⟩ := hx
  obtain ⟨A2, c2, rfl, _⟩ := hT.len
  have hlen : 0 < al.length := by rw [hal]; simp
  clear hr hal hT
  go_enter Tryz.func170, Tryz.ntmps170
  go_wp2
  go_loopw [5] (fun i wr => i = .int .i64 0 ∧ Below w.heap.size w wr) (fun _ _ => 0)
  case atStart => exact ⟨rfl, Below.refl _ _⟩
  case round =>
    obtain ⟨rfl, hb⟩ := hrel
    have q : ∀ j u, [Value.int .i64 5, .int .i64 0, .int .i64 0, .string ⟨#[]⟩, .slice A2 rows.length c2][j]? = some u → wr.cell? ⟨g, o + 0 * 5 + j, none⟩ = some u := fun j u hu => (hb.cell (p := ⟨g, o + 0 * 5 + j, none⟩) hg).trans (hcell j u hu)
    have q0 := q 0 _ rfl
    have q1 := q 1 _ rfl
    have q2 := q 2 _ rfl
    have q3 := q 3 _ rfl
    have q4 := q 4 _ rfl
    simp only [Nat.zero_mul, Nat.add_zero] at q0 q1 q2 q3 q4
    have HB := Lib.hid hb
    clear q hcell hb
    go_wp2_with (go_at_call 171; refine (numeric_tbl _ _ _ _).mono ?_; rintro e w1 ⟨rfl, hb1⟩)
    go_ret
    exact ⟨⟨_, rfl⟩, HB.out.trans (hb1.mono HB.out.size)⟩

set_option maxRecDepth 100000 in
set_option maxHeartbeats 2000000 in
theorem stat_Product (al : List Arg) (rows : List (List FV)) (bl : List Arg) (hal : al = .tbl rows :: bl) (v : Value) (w : World) (hr : ARow w w.heap.size v al) (hg : ∀ a ∈ al, a.good) (hn : al.length ≤ 1000000) (hn2 : (flats al).length ≤ 1000000) :
    Calls Tryz.prog 55 #[.string ⟨#[80, 82, 79, 68, 85, 67, 84]⟩, v] w fun e w' => e = .returned (.tuple #[.agg #[.int .i64 (rFold true prodF al).kind, .int .i64 (rFold true prodF al).num, .int .i64 (rFold true prodF al).den, .string (rFold true prodF al).text, .slice none 0 0], .bool true]) ∧ Below w.heap.size w w' := by
  obtain ⟨r, hr9⟩ : ∃ r, r = rFold true prodF al := ⟨_, rfl⟩
  have HF : Hid (∀ W, Below w.heap.size w W → Calls Tryz.prog 90 #[v, .bool true, .func (.func 92) #[] #[]] W fun e w' => e = .returned (.agg #[.int .i64 r.kind, .int .i64 r.num, .int .i64 r.den, .string r.text, .slice none 0 0]) ∧ Below W.heap.size W w') := by
    intro W hW
    rw [hr9]
    refine fold_any _ true prodF al (by rw [hal]; simp) v W ((hr.below hW).more hW.size) hg hn hn2 (fun h => by cases h) enter_productOf fun h1 h2 v2 W2 hr2 => ?_
    refine productOf_any (memA al) v2 W2 hr2 (memA_ok true al hg h1 h2) ?_
    have h3 := memA_take_len al al.length
    rw [List.take_length] at h3
    omega
  rw [← hr9]
  clear hr9 hr hg hal
  have hu26 := Tryz.underlying31
  go_enter Tryz.func55, Tryz.ntmps55
  go_wp2_with (go_at_call 90; refine (HF.out _ ((Below.refl _ _).alloc (Nat.le_refl _) _)).mono ?_; rintro e w1 ⟨rfl, hb1⟩; obtain ⟨c1, f1, z1, k1⟩ := box_cells (heap_new1 _ _) hb1)
  refine bodyPost_ret (v := .tuple #[.agg #[.int .i64 r.kind, .int .i64 r.num, .int .i64 r.den, .string r.text, .slice none 0 0], .bool true]) (by simp [results, Tryz.results55, go_sem, c1]) rfl ⟨rfl, ?_⟩
  exact set5 (below_one hb1) _ _ _ _ _

/-- PRODUCT of the reference. -/
theorem call_Product (al : List Arg) (rows : List (List FV)) (bl : List Arg) (hal : al = .tbl rows :: bl) (v : Value) (w : World) (hr : ARow w w.heap.size v al) (hg : ∀ a ∈ al, a.good) (hn : al.length ≤ 1000000) (hn2 : (flats al).length ≤ 1000000) :
    Calls Tryz.prog 23 #[.string ⟨#[80, 82, 79, 68, 85, 67, 84]⟩, v] w fun e w' => e = .returned (.agg #[.int .i64 (rFold true prodF al).kind, .int .i64 (rFold true prodF al).num, .int .i64 (rFold true prodF al).den, .string (rFold true prodF al).text, .slice none 0 0]) ∧ Below w.heap.size w w' := by
  refine call_any _ v w _ _ _ _ _ _ _ fun W0 hW0 => ?_
  have hr0 := (hr.below hW0).more hW0.size
  obtain ⟨A, c, rfl⟩ : ∃ A c, v = .slice A al.length c := by
    obtain ⟨A, c, h, _⟩ := hr.len
    exact ⟨A, c, h⟩
  refine callOver_Stat _ _ W0 _ _ _ _ _ _ _ ?_ ?_
  · intro W hW
    refine fits_Others _ _ W ?_ (fun W' _ => fitsTexts_Product _ _ _ W') (fun W' _ => fitsChoices_Product _ _ _ W') (fun W' => others_Product W')
    exact fun W' hW' => fitsNumbers_Product _ _ _ W' fun W2 hW2 => every_tbl al rows bl hal _ W2 ((((hr0.below hW).more hW.size).below (hW'.trans (hW2.mono hW'.size))).more (Nat.le_trans hW'.size hW2.size)) hn
  · exact fun W hW => stat_Product al rows bl hal _ W ((hr0.below hW).more hW.size) hg hn hn2

end Go.Proofs.YtkglbccdiofnkaaGreatDoor
