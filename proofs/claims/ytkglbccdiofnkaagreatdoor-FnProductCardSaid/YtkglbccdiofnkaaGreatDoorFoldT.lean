/-
'members' and 'fold' of the reference.
-/
import Derived.Test.YtkglbccdiofnkaaGreatDoorMul
import Derived.Test.YtkglbccdiofnkaaGreatDoorFlatO
import Derived.Deep.RegionHeld3
import Derived.Outline
namespace Go.Proofs.YtkglbccdiofnkaaGreatDoor
open Go.RowKit

/-- Cells of a variable of the reference's values. -/
abbrev bxc (x : FV) : Array Value := #[.int .i64 x.kind, .int .i64 x.num, .int .i64 x.den, .string x.text, .slice none 0 0]
def badV (al : List Arg) : FV := (badL al).getD ⟨0, 0, 0, ⟨#[]⟩⟩
def hasBad (al : List Arg) : Bool := (badL al).isSome
theorem bad_keep (al : List Arg) (k : Nat) (a : Arg) (h : al[k]? = some a) (h1 : badA a = none) : badV (al.take (k + 1)) = badV (al.take k) ∧ hasBad (al.take (k + 1)) = hasBad (al.take k) := by
  unfold badV hasBad
  rw [badL_snoc al k a h, h1]
  cases badL (al.take k) <;> exact ⟨rfl, rfl⟩
theorem bad_had (al : List Arg) (k : Nat) (a : Arg) (h : al[k]? = some a) (h1 : hasBad (al.take k) = true) : badV (al.take (k + 1)) = badV (al.take k) ∧ hasBad (al.take (k + 1)) = true := by
  unfold badV hasBad at *
  rw [badL_snoc al k a h]
  cases hb : badL (al.take k) with
  | none => rw [hb] at h1; cases h1
  | some x => exact ⟨rfl, rfl⟩
theorem bad_first (al : List Arg) (k : Nat) (a : Arg) (x : FV) (h : al[k]? = some a) (h1 : hasBad (al.take k) = false) (h2 : badA a = some x) : badV (al.take (k + 1)) = x ∧ hasBad (al.take (k + 1)) = true := by
  unfold badV hasBad at *
  rw [badL_snoc al k a h, h2]
  cases hb : badL (al.take k) with
  | none => exact ⟨rfl, rfl⟩
  | some y => rw [hb] at h1; cases h1

/-- What 'members' leaves. -/
def Memb (strict : Bool) (al : List Arg) (w : World) (e : Ending) (w' : World) : Prop :=
  Below w.heap.size w w' ∧
  (al.all (fineA strict) = false → e = .returned (.tuple #[.slice none 0 0, .agg #[.int .i64 6, .int .i64 0, .int .i64 0, .string ⟨#[]⟩, .slice none 0 0], .bool false])) ∧
  (al.all (fineA strict) = true → ∃ v', e = .returned (.tuple #[v', .agg #[.int .i64 (badV al).kind, .int .i64 (badV al).num, .int .i64 (badV al).den, .string (badV al).text, .slice none 0 0], .bool (!hasBad al)]) ∧ Row w' w'.heap.size 5 v' ((memA al).map FV.list))
theorem Memb.no {strict : Bool} {al : List Arg} {w w' : World} {e : Ending} (h : al.all (fineA strict) = false) (he : e = .returned (.tuple #[.slice none 0 0, .agg #[.int .i64 6, .int .i64 0, .int .i64 0, .string ⟨#[]⟩, .slice none 0 0], .bool false])) (hb : Below w.heap.size w w') : Memb strict al w e w' :=
  ⟨hb, fun _ => he, fun h2 => by rw [h] at h2; cases h2⟩

theorem len_two {n : Nat} (h : n + 1 ≤ 2000001) : (n + 1) * 64 ≤ 140737488355328 := by omega
theorem take_one_at {α : Type} (l : List α) (k : Nat) (a : α) (h : l[k]? = some a) : (l.drop k).take 1 = [a] := by rw [List.take_one, List.head?_drop, h]; rfl

/-- The state of 'members' at the head of a round. -/
structure MSt (strict : Bool) (al : List Arg) (w : World) (k : Nat) (out : Value) (wr : World) : Prop where
  le : k ≤ al.length
  fine : (al.take k).all (fineA strict) = true
  own : Own wr (w.heap.size + 2) 31 5 out ((memA (al.take k)).map FV.list)
  bad : wr.heap[w.heap.size + 1]? = some (.cells #[.int .i64 (badV (al.take k)).kind, .int .i64 (badV (al.take k)).num, .int .i64 (badV (al.take k)).den, .string (badV (al.take k)).text, .slice none 0 0] 31)
  res : wr.heap[w.heap.size]? = some (.cells #[.int .i64 0, .int .i64 0, .int .i64 0, .string ⟨#[]⟩, .slice none 0 0] 31)
  below : Below w.heap.size w wr
  size : w.heap.size + 2 ≤ wr.heap.size

theorem MSt.next {strict : Bool} {al : List Arg} {w wr W w4 : World} {k : Nat} {out out' : Value} {r : FV} (h : MSt strict al w k out wr) (hk : k < al.length) (hfine : (al.take (k + 1)).all (fineA strict) = true) (hmem : memA (al.take (k + 1)) = memA (al.take k) ++ [r])
    (hown : Own w4 (w.heap.size + 2) 31 5 out' ((memA (al.take k)).map FV.list ++ [FV.list r])) (hW : Below w.heap.size wr W) (hsz : wr.heap.size ≤ W.heap.size) (hbad : W.heap[w.heap.size + 1]? = some (.cells #[.int .i64 (badV (al.take (k + 1))).kind, .int .i64 (badV (al.take (k + 1))).num, .int .i64 (badV (al.take (k + 1))).den, .string (badV (al.take (k + 1))).text, .slice none 0 0] 31))
    (hres : W.heap[w.heap.size]? = some (.cells #[.int .i64 0, .int .i64 0, .int .i64 0, .string ⟨#[]⟩, .slice none 0 0] 31)) (hb : Below (w.heap.size + 2) W w4) : MSt strict al w (k + 1) out' w4 := by
  have h2 := h.size
  refine ⟨hk, hfine, ?_, (hb.block _ (by omega)).trans hbad, (hb.block _ (by omega)).trans hres, (h.below.trans hW).trans (hb.mono (by omega)), by have := hb.size; omega⟩
  rw [hmem, List.map_append]
  exact hown

set_option maxRecDepth 100000 in
set_option maxHeartbeats 8000000 in
theorem members_any (strict : Bool) (al : List Arg) (v : Value) (w : World) (hr : ARow w w.heap.size v al) (hg : ∀ a ∈ al, a.good) (hn : al.length ≤ 1000000) (hn2 : (flats al).length ≤ 1000000) (hE : strict = false → ∀ f, Arg.one f ∈ al → f.kind ≠ 4) :
    Calls Tryz.prog 190 #[v, .bool strict] w (Memb strict al w) := by
  have hu26 := Tryz.underlying31
  obtain ⟨A, c, rfl, hAc⟩ := hr.len
  have HR := Lib.hid hr
  have HG := Lib.hid hg
  have HN2 := Lib.hid hn2
  obtain ⟨W0, hW0⟩ : ∃ W0 : World, W0 = (w.alloc (.cells #[.int .i64 0, .int .i64 0, .int .i64 0, .string ⟨#[]⟩, .slice none 0 0] 31)).alloc (.cells #[.int .i64 0, .int .i64 0, .int .i64 0, .string ⟨#[]⟩, .slice none 0 0] 31) := ⟨_, rfl⟩
  have h0 : MSt strict al w 0 (.slice none 0 0) W0 := by
    refine ⟨Nat.zero_le _, rfl, Own.nil_ _ _ _ _, ?_, ?_, ?_, ?_⟩
    · rw [hW0]; exact heap_new2b _ _ _
    · rw [hW0]; exact heap_new2a _ _ _
    · rw [hW0]; exact ((Below.refl _ _).alloc (Nat.le_refl _) _).alloc (by simp) _
    · rw [hW0]; simp
  have HW0 := Lib.hid hW0.symm
  have H0 := Lib.hid h0
  have HE := Lib.hid hE
  clear hr hg hn2 hW0 h0 hE
  go_enter Tryz.func190, Tryz.ntmps190
  go_wp2
  go_loopw [7, 9, 10, 12] (fun out is i _ wr => ∃ k : Nat, i = .int .i64 k ∧ MSt strict al w k out wr ∧ is = .bool (hasBad (al.take k))) (fun _ _ i _ _ => al.length - (intOf i).toNat)
  case atStart =>
    rw [HW0.out]
    exact ⟨0, rfl, H0.out, rfl⟩
  case round =>
    obtain ⟨k, rfl, hst, rfl⟩ := hrel
    have HST := Lib.hid hst
    have hk1 := hst.le
    obtain ⟨cb, fb, zb⟩ := row_facts hst.bad
    obtain ⟨cr, fr, zr⟩ := row_facts hst.res
    by_cases hlt : k < al.length
    · obtain ⟨a, hak⟩ : ∃ a, al[k]? = some a := ⟨_, List.getElem?_eq_getElem hlt⟩
      obtain ⟨g, o, c', x, e, _, hgw, hx, hcell⟩ := HR.out.at_ hak
      injection e with e1 e2 e3
      subst e1
      clear e2 e3
      have hga := HG.out a (List.mem_of_getElem? hak)
      have HGA := Lib.hid hga
      have HMEM := Lib.hid (List.mem_of_getElem? hak)
      have HAK := Lib.hid hak
      have HK : Hid (k < al.length) := hlt
      have HMS := Lib.hid (memA_snoc al k a hak)
      have hml := memA_take_len al (k + 1)
      have HML := Lib.hid hml
      have hbw := hst.below
      cases a with
      | one f =>
        have hxf : x = FV.list f := hx
        subst hxf
        have hok : f.ok := hga
        have q : ∀ j u, (FV.list f)[j]? = some u → wr.cell? ⟨g, o + k * 5 + j, none⟩ = some u := fun j u hu => (hbw.cell (p := ⟨g, o + k * 5 + j, none⟩) hgw).trans (hcell j u hu)
        have q0 := q 0 _ rfl
        have q1 := q 1 _ rfl
        have q2 := q 2 _ rfl
        have q3 := q 3 _ rfl
        have q4 := q 4 _ rfl
        simp only [Nat.add_zero] at q0
        clear q hak hcell hst hx hga hbw hml hlt
        have HGX : Hid (g < wr.heap.size) := Nat.lt_of_lt_of_le hgw HST.out.below.size
        obtain ⟨r, hr⟩ : ∃ r, r = (ownR f).1 := ⟨_, rfl⟩
        obtain ⟨okb, hokb⟩ : ∃ b, b = (ownR f).2 := ⟨_, rfl⟩
        have HOWN : Hid (∀ W, Calls Tryz.prog 262 #[.agg #[.int .i64 f.kind, .int .i64 f.num, .int .i64 f.den, .string f.text, .slice none 0 0]] W fun e w' => e = .returned (.tuple #[.agg #[.int .i64 r.kind, .int .i64 r.num, .int .i64 r.den, .string r.text, .slice none 0 0], .bool okb]) ∧ Below W.heap.size W w') := by
          rw [hr, hokb]; exact fun W => own_any f W hok
        have HLen : Hid (((memA (al.take k)).map FV.list).length + 1 ≤ 2000001) := by
          have h1 := memA_take_len al k
          have h4 := HN2.out
          rw [Hid, List.length_map]
          omega
        have hlt : k < al.length := HK.out
        have t5 : (f.kind == 5) = false := by simpa using hok.notMatrix
        by_cases h1 : f.kind = 1
        · have er : r = f := by rw [hr]; unfold ownR ownV; rw [if_pos (.inl h1), if_neg (by omega)]
          have eo : okb = true := by rw [hokb]; unfold ownR; rw [if_pos (.inl h1)]
          subst eo
          have hfi : fineA strict (.one f) = true := by simp [fineA, h1]
          have hnu : numsA (.one f) = [r] := by rw [er]; simp [numsA, ownV, h1]
          have hba : badA (.one f) = none := by simp [badA, h1]
          have t6 : (r.kind == 6) = false := by rw [er, h1]; rfl
          have t7 : (f.kind != 1) = false := by rw [h1]; rfl
          have HMS2 : Hid (memA (al.take (k + 1)) = memA (al.take k) ++ [r]) := by rw [Hid, HMS.out, hnu]
          have HFI := Lib.hid (all_snoc _ al k _ HAK.out HST.out.fine hfi)
          have HBK := Lib.hid (bad_keep al k _ HAK.out hba)
          clear er hr hokb h1 hfi hnu hba hok
          cases strict
          all_goals
            go_wp2_with fail
            (refine (HOWN.out _).mono ?_; rintro e w1 ⟨rfl, hb1⟩; have p0 := (World.cell?_alloc_lt w1 (.cells #[.int .i64 r.kind, .int .i64 r.num, .int .i64 r.den, .string r.text, .slice none 0 0] 31) ⟨g, o + k * 5, none⟩ (Nat.lt_of_lt_of_le HGX.out hb1.size)).trans ((hb1.cell (p := ⟨g, o + k * 5, none⟩) HGX.out).trans q0))
            go_wp2_with (at_builtin; refine app_one (w.heap.size + 2) rfl (.tmp 107) (.tmp 109) 26 31 _ 5 64 rfl Tryz.underlying26 valInfo rfl (by omega) (by omega) _ _ (FV.list r) rfl rfl rfl (by simp [FV.list, Value.oneCell']) (by simp) (HST.out.own.below (hb1.alloc hb1.size (.cells #[.int .i64 r.kind, .int .i64 r.num, .int .i64 r.den, .string r.text, .slice none 0 0] 31))) (Below.refl _ _) (Nat.le_trans HST.out.size (hb1.alloc hb1.size (.cells #[.int .i64 r.kind, .int .i64 r.num, .int .i64 r.den, .string r.text, .slice none 0 0] 31)).size) (len_two HLen.out) ?_; intro v4 w4 hown4 hb4 _)
            have hlt := HK.out
            go_roundw
            case rel => exact ⟨k + 1, by go_num, HST.out.next hlt HFI.out HMS2.out hown4 ((hb1.alloc hb1.size _).mono HST.out.below.size) (hb1.alloc hb1.size _).size (by rw [HBK.out.1]; exact (Below.heap_alloc _ _ _ (box_cells HST.out.bad hb1).2.2.1).trans (box_cells HST.out.bad hb1).2.2.2) ((Below.heap_alloc _ _ _ (box_cells HST.out.res hb1).2.2.1).trans (box_cells HST.out.res hb1).2.2.2) hb4, by rw [HBK.out.2]⟩
            case measure => simp [intOf]; omega
        · have t7 : (f.kind != 1) = true := by simpa using h1
          cases strict with
          | true =>
            have HNF : Hid (al.all (fineA true) = false) := all_miss (fineA true) al k _ HAK.out (by simp [fineA, h1])
            obtain ⟨tb, ht⟩ : ∃ b, (r.kind == 6) = b := ⟨_, rfl⟩
            clear hr hokb h1 hok
            cases tb
            all_goals
              go_wp2_with (first
                | (go_at_call 262; refine (HOWN.out _).mono ?_; rintro e w1 ⟨rfl, hb1⟩; have p0 := (World.cell?_alloc_lt w1 (.cells #[.int .i64 r.kind, .int .i64 r.num, .int .i64 r.den, .string r.text, .slice none 0 0] 31) ⟨g, o + k * 5, none⟩ (Nat.lt_of_lt_of_le HGX.out hb1.size)).trans ((hb1.cell (p := ⟨g, o + k * 5, none⟩) HGX.out).trans q0))
                | (go_at_call 34; refine (doubt_any _).mono ?_; rintro e w9 ⟨rfl, hb9⟩; have pb9 := below_next hb1 hb1.size (below_one hb9); obtain ⟨c9, f9, z9, k9⟩ := box_cells HST.out.res pb9; clear cr fr))
              refine bodyPost_ret (v := .tuple #[.slice none 0 0, .agg #[.int .i64 6, .int .i64 0, .int .i64 0, .string ⟨#[]⟩, .slice none 0 0], .bool false]) (by simp [results, Tryz.results190, go_sem, c9]) rfl (Memb.no HNF.out rfl ?_)
              have pbw := HST.out.below.trans (pb9.mono HST.out.below.size)
              clear c9 f9
              (repeat refine below_set0 ?_ _ _)
              exact pbw
          | false =>
            by_cases h3 : f.kind = 3
            · have er : r = ⟨1, f.num, 1, ⟨#[]⟩⟩ := by rw [hr]; unfold ownR ownV; rw [if_pos (.inr h3), if_pos h3]
              have eo : okb = true := by rw [hokb]; unfold ownR; rw [if_pos (.inr h3)]
              subst eo
              have hfi : fineA false (.one f) = true := by simp [fineA, h3]
              have hnu : numsA (.one f) = [r] := by rw [er]; simp [numsA, ownV, h3]
              have hba : badA (.one f) = none := by simp [badA, h3]
              have t6 : (r.kind == 6) = false := by rw [er]; rfl
              have HMS2 : Hid (memA (al.take (k + 1)) = memA (al.take k) ++ [r]) := by rw [Hid, HMS.out, hnu]
              have HFI := Lib.hid (all_snoc _ al k _ HAK.out HST.out.fine hfi)
              have HBK := Lib.hid (bad_keep al k _ HAK.out hba)
              clear er hr hokb h1 hfi hnu hba hok h3
              go_wp2_with fail
              (refine (HOWN.out _).mono ?_; rintro e w1 ⟨rfl, hb1⟩; have p0 := (World.cell?_alloc_lt w1 (.cells #[.int .i64 r.kind, .int .i64 r.num, .int .i64 r.den, .string r.text, .slice none 0 0] 31) ⟨g, o + k * 5, none⟩ (Nat.lt_of_lt_of_le HGX.out hb1.size)).trans ((hb1.cell (p := ⟨g, o + k * 5, none⟩) HGX.out).trans q0))
              go_wp2_with (at_builtin; refine app_one (w.heap.size + 2) rfl (.tmp 107) (.tmp 109) 26 31 _ 5 64 rfl Tryz.underlying26 valInfo rfl (by omega) (by omega) _ _ (FV.list r) rfl rfl rfl (by simp [FV.list, Value.oneCell']) (by simp) (HST.out.own.below (hb1.alloc hb1.size (.cells #[.int .i64 r.kind, .int .i64 r.num, .int .i64 r.den, .string r.text, .slice none 0 0] 31))) (Below.refl _ _) (Nat.le_trans HST.out.size (hb1.alloc hb1.size (.cells #[.int .i64 r.kind, .int .i64 r.num, .int .i64 r.den, .string r.text, .slice none 0 0] 31)).size) (len_two HLen.out) ?_; intro v4 w4 hown4 hb4 _)
              have hlt := HK.out
              go_roundw
              case rel => exact ⟨k + 1, by go_num, HST.out.next hlt HFI.out HMS2.out hown4 ((hb1.alloc hb1.size _).mono HST.out.below.size) (hb1.alloc hb1.size _).size (by rw [HBK.out.1]; exact (Below.heap_alloc _ _ _ (box_cells HST.out.bad hb1).2.2.1).trans (box_cells HST.out.bad hb1).2.2.2) ((Below.heap_alloc _ _ _ (box_cells HST.out.res hb1).2.2.1).trans (box_cells HST.out.res hb1).2.2.2) hb4, by rw [HBK.out.2]⟩
              case measure => simp [intOf]; omega
            · by_cases h4 : f.kind = 4
              · exact absurd h4 (HE.out rfl f HMEM.out)
              · have er : r = ⟨6, 0, 0, ⟨#[]⟩⟩ := by rw [hr]; unfold ownR; rw [if_neg (by omega), if_neg h4]
                have HNF : Hid (al.all (fineA false) = false) := all_miss (fineA false) al k _ HAK.out (by simp [fineA, h1, h3, h4])
                have t6 : (r.kind == 6) = true := by rw [er]; rfl
                clear er hr hokb h1 h3 h4 hok
                go_wp2_with (first
                  | (go_at_call 262; refine (HOWN.out _).mono ?_; rintro e w1 ⟨rfl, hb1⟩; have p0 := (World.cell?_alloc_lt w1 (.cells #[.int .i64 r.kind, .int .i64 r.num, .int .i64 r.den, .string r.text, .slice none 0 0] 31) ⟨g, o + k * 5, none⟩ (Nat.lt_of_lt_of_le HGX.out hb1.size)).trans ((hb1.cell (p := ⟨g, o + k * 5, none⟩) HGX.out).trans q0))
                  | (go_at_call 34; refine (doubt_any _).mono ?_; rintro e w9 ⟨rfl, hb9⟩; have pb9 := below_next hb1 hb1.size (below_one hb9); obtain ⟨c9, f9, z9, k9⟩ := box_cells HST.out.res pb9; clear cr fr))
                refine bodyPost_ret (v := .tuple #[.slice none 0 0, .agg #[.int .i64 6, .int .i64 0, .int .i64 0, .string ⟨#[]⟩, .slice none 0 0], .bool false]) (by simp [results, Tryz.results190, go_sem, c9]) rfl (Memb.no HNF.out rfl ?_)
                have pbw := HST.out.below.trans (pb9.mono HST.out.below.size)
                clear c9 f9
                (repeat refine below_set0 ?_ _ _)
                exact pbw
      | tbl rows =>
        obtain ⟨rv, rfl, hT⟩ := hx
        obtain ⟨A2, c2, rfl, _⟩ := hT.len
        have q : ∀ j u, [Value.int .i64 5, .int .i64 0, .int .i64 0, .string ⟨#[]⟩, .slice A2 rows.length c2][j]? = some u → wr.cell? ⟨g, o + k * 5 + j, none⟩ = some u := fun j u hu => (hbw.cell (p := ⟨g, o + k * 5 + j, none⟩) hgw).trans (hcell j u hu)
        have q0 := q 0 _ rfl
        have q1 := q 1 _ rfl
        have q2 := q 2 _ rfl
        have q3 := q 3 _ rfl
        have q4 := q 4 _ rfl
        simp only [Nat.add_zero] at q0
        have hfl : rows.flatten.length ≤ 1000000 := by
          have h1 := flats_len al (k + 1)
          rw [flats_take al k _ hak, List.length_append] at h1
          have h2 := HN2.out
          have h3 : (Arg.tbl rows).flat = rows.flatten := rfl
          rw [h3] at h1
          omega
        obtain ⟨fb1, hfb1⟩ : ∃ b, b = fineA strict (.tbl rows) := ⟨_, rfl⟩
        have HKD : Hid (∀ (W : World) (kv : Value), Below wr.heap.size wr W → Row W W.heap.size 1 kv ((ksOf strict).map fun k => [Value.int .i64 k]) → Calls Tryz.prog 112 #[.agg #[.int .i64 5, .int .i64 0, .int .i64 0, .string ⟨#[]⟩, .slice A2 rows.length c2], kv] W fun e w' => e = .returned (.bool fb1) ∧ Below W.heap.size W w') := by
          intro W kv hW hkv
          rw [hfb1]
          exact kinds_tbl rows (ksOf strict) _ kv W ((((hT.below hbw).more hbw.size).below hW).more hW.size) hkv HGA.out.fits hfl (by unfold ksOf; split <;> simp)
        have HFB := Lib.hid hfb1
        have HT : Hid (TRow w w.heap.size (.slice A2 rows.length c2) rows) := hT
        clear q hak hcell hst hga hT hbw hml hlt hfb1
        cases fb1 with
        | false =>
          have HNF : Hid (al.all (fineA strict) = false) := all_miss (fineA strict) al k _ HAK.out HFB.out.symm
          cases strict with
          | true =>
            go_wp2_with (first
              | (go_at_call 112; refine (HKD.out _ _ ((Below.refl _ _).alloc (Nat.le_refl _) _) (Row.lits _ _ 1 [[.int .i64 1], [.int .i64 0]] _ rfl (by simp) _ rfl)).mono ?_; rintro e w1 ⟨rfl, hb1⟩; have pb1 := below_one hb1)
              | (go_at_call 34; refine (doubt_any _).mono ?_; rintro e w9 ⟨rfl, hb9⟩; have pb9 := below_next pb1 pb1.size hb9; obtain ⟨c9, f9, z9, k9⟩ := box_cells HST.out.res pb9; clear cr fr))
            refine bodyPost_ret (v := .tuple #[.slice none 0 0, .agg #[.int .i64 6, .int .i64 0, .int .i64 0, .string ⟨#[]⟩, .slice none 0 0], .bool false]) (by simp [results, Tryz.results190, go_sem, c9]) rfl (Memb.no HNF.out rfl ?_)
            have pbw := HST.out.below.trans (pb9.mono HST.out.below.size)
            clear c9 f9
            (repeat refine below_set0 ?_ _ _)
            exact pbw
          | false =>
            go_wp2_with (first
              | (go_at_call 112; refine (HKD.out _ _ ((Below.refl _ _).alloc (Nat.le_refl _) _) (Row.lits _ _ 1 [[.int .i64 1], [.int .i64 0], [.int .i64 2], [.int .i64 3]] _ rfl (by simp) _ rfl)).mono ?_; rintro e w1 ⟨rfl, hb1⟩; have pb1 := below_one hb1)
              | (go_at_call 34; refine (doubt_any _).mono ?_; rintro e w9 ⟨rfl, hb9⟩; have pb9 := below_next pb1 pb1.size hb9; obtain ⟨c9, f9, z9, k9⟩ := box_cells HST.out.res pb9; clear cr fr))
            refine bodyPost_ret (v := .tuple #[.slice none 0 0, .agg #[.int .i64 6, .int .i64 0, .int .i64 0, .string ⟨#[]⟩, .slice none 0 0], .bool false]) (by simp [results, Tryz.results190, go_sem, c9]) rfl (Memb.no HNF.out rfl ?_)
            have pbw := HST.out.below.trans (pb9.mono HST.out.below.size)
            clear c9 f9
            (repeat refine below_set0 ?_ _ _)
            exact pbw
        | true =>
          obtain ⟨V, hV⟩ : ∃ V, V = rows.flatten := ⟨_, rfl⟩
          have HVV := Lib.hid hV
          have HVL : Hid (V.length ≤ 1000000) := by rw [Hid, hV]; exact hfl
          have hvl : V.length ≤ 1000000 := HVL.out
          have HPART : Hid (∀ W : World, Below wr.heap.size wr W → ARow W W.heap.size (.slice (some ⟨g, o + k * 5, none⟩) 1 (c - k)) [.tbl rows]) := by
            intro W hW
            have h1 := HR.out.part k 1 (c - k) (by have := HK.out; omega) (by have := HK.out; omega)
            rw [take_one_at al k _ HAK.out] at h1
            exact (((h1.below HST.out.below).more HST.out.below.size).below hW).more hW.size
          have hlt : k < al.length := HK.out
          have hc1 : (k : Int) + 1 ≤ (c : Int) := by omega
          have hc2 : ¬ c = k := by omega
          clear hV
          cases strict with
          | true =>
            go_wp2_with (first
              | (go_at_call 112; refine (HKD.out _ _ ((Below.refl _ _).alloc (Nat.le_refl _) _) (Row.lits _ _ 1 [[.int .i64 1], [.int .i64 0]] _ rfl (by simp) _ rfl)).mono ?_; rintro e w1 ⟨rfl, hb1⟩; have pb1 := below_one hb1)
              | (go_at_call 40; refine (flat_own [.tbl rows] _ _ (HPART.out _ pb1) (by simpa using HGA.out.fits) (by simp) (by rw [flats_tbl]; exact hfl)).mono ?_; rintro e w2 ⟨v2, rfl, hown2, hb2⟩))
            have pb2 := below_next pb1 pb1.size hb2
            rw [flats_tbl, ← HVV.out] at hown2
            obtain ⟨A3, c3, hv3, _⟩ := hown2.len
            rw [List.length_map] at hv3
            subst hv3
            have HS2 : Hid (RowS w2 (Off (w.heap.size + 2) w2 u7) 5 (.slice A3 V.length c3) (V.map FV.list)) := hown2.rowS.mono (off_new (HST.out.own.below pb1) (Nat.le_trans HST.out.size pb1.size))
            have HO2 : Hid (Own w2 (w.heap.size + 2) 31 5 u7 ((memA (al.take k)).map FV.list)) := HST.out.own.below pb2
            have PB2 := Lib.hid pb2
            clear hown2 hb1 hb2 pb1 pb2 cr fr cb fb
            go_loopw [7, 12] (fun out j wx => ∃ m : Nat, m ≤ V.length ∧ j = .int .i64 m ∧ Own wx (w.heap.size + 2) 31 5 out ((memA (al.take k) ++ filt (V.take m)).map FV.list) ∧ RowS wx (Off (w.heap.size + 2) wx out) 5 (.slice A3 V.length c3) (V.map FV.list) ∧ Below (w.heap.size + 2) w2 wx) (fun _ j _ => V.length - (intOf j).toNat)
            case atStart => exact ⟨0, Nat.zero_le _, rfl, by have := HO2.out; simpa [filt] using this, HS2.out, Below.refl _ _⟩
            case round =>
              obtain ⟨m, hm, rfl, hox, hsx, hbx⟩ := hrel
              by_cases hmt : m < V.length
              · obtain ⟨x, hx⟩ : ∃ x, V[m]? = some x := ⟨_, List.getElem?_eq_getElem hmt⟩
                obtain ⟨g3, o3, c4, e, _, hg3, hcell3⟩ := (hsx.row (B := wr.heap.size) fun b h => h.2.1).at_ (show (V.map FV.list)[m]? = some (FV.list x) by rw [List.getElem?_map, hx]; rfl)
                injection e with e1 e2 e3
                subst e1
                clear e2 e3
                have p0 := hcell3 0 _ rfl
                have p1 := hcell3 1 _ rfl
                have p2 := hcell3 2 _ rfl
                have p3 := hcell3 3 _ rfl
                have p4 := hcell3 4 _ rfl
                simp only [Nat.add_zero] at p0
                have HFS := Lib.hid (filt_snoc V m x hx)
                have HM : Hid (m < V.length) := hmt
                have HLen : Hid (((memA (al.take k) ++ filt (V.take m)).map FV.list).length + 1 ≤ 2000001) := by
                  have h1 := HML.out
                  rw [HMS.out, List.length_append] at h1
                  have h2 : (filt (V.take m)).length ≤ V.length := Nat.le_trans (List.length_filter_le _ _) (by rw [List.length_take]; omega)
                  have h3 := HVL.out
                  have h4 := HN2.out
                  rw [Hid, List.length_map, List.length_append]
                  omega
                have HSX := Lib.hid hsx
                have HOX := Lib.hid hox
                have HBX := Lib.hid hbx
                clear hx hcell3 hsx hox hbx hmt hm
                by_cases h1 : x.kind = 1
                · have t1 : (x.kind == 1) = true := by simpa using h1
                  have H1 := Lib.hid h1
                  clear h1
                  go_wp2_with (at_builtin; refine app_off (w0 := w2) (w.heap.size + 2) rfl (.tmp 70) (.tmp 75) 26 31 _ 5 64 rfl Tryz.underlying26 valInfo rfl (by omega) (by omega) _ _ (FV.list x) rfl rfl rfl (by simp [FV.list, Value.oneCell']) (by simp) HOX.out HBX.out (Nat.le_trans (Nat.le_trans HST.out.size PB2.out.size) HBX.out.size) (len_two HLen.out) ?_; intro v4 w4 hown4 hb4 _ hg4 hat4)
                  have hmt := HM.out
                  obtain ⟨k1, k2⟩ := grown_off (lo := w.heap.size + 2) hg4 hat4
                  have HK12 := Lib.hid ((HSX.out.keep k1).mono k2)
                  clear k1 k2
                  go_roundw
                  case rel => exact ⟨m + 1, by omega, by go_num, by rw [HFS.out, if_pos H1.out, ← List.append_assoc, List.map_append]; exact hown4, HK12.out, hb4⟩
                  case measure => simp [intOf]; omega
                · have t1 : (x.kind == 1) = false := by simpa using h1
                  have H1 := Lib.hid h1
                  clear h1
                  go_wp2
                  have hmt := HM.out
                  go_roundw
                  case rel => exact ⟨m + 1, by omega, by go_num, by rw [HFS.out, if_neg H1.out, List.append_nil]; exact HOX.out, HSX.out, HBX.out⟩
                  case measure => simp [intOf]; omega
              · obtain rfl : m = V.length := by omega
                rw [List.take_length] at hox
                have hkk := HK.out
                have hnum : memA (al.take (k + 1)) = memA (al.take k) ++ filt V := by rw [HMS.out, HVV.out]; rfl
                have hbk := bad_keep al k _ HAK.out rfl
                have HNext : Hid (MSt true al w (k + 1) u7 wr) := by
                  have hs2 := HST.out.size
                  refine ⟨hkk, all_snoc _ al k _ HAK.out HST.out.fine HFB.out.symm, by rw [hnum]; exact hox, ?_, ?_, HST.out.below.trans (((PB2.out).mono HST.out.below.size).trans (hbx.mono (by omega))), Nat.le_trans (Nat.le_trans HST.out.size PB2.out.size) hbx.size⟩
                  · rw [hbk.1]
                    exact (hbx.block _ (by omega)).trans ((PB2.out.block _ (by omega)).trans HST.out.bad)
                  · exact (hbx.block _ (by omega)).trans ((PB2.out.block _ (by omega)).trans HST.out.res)
                have HBB := Lib.hid hbk.2
                clear hox hsx hbx hm hmt hkk hnum hbk
                go_wp2
                have hlt := HK.out
                go_roundw
                case rel => exact ⟨k + 1, by go_num, HNext.out, by rw [HBB.out]⟩
                case measure => simp [intOf]; omega
          | false =>
            go_wp2_with (first
              | (go_at_call 112; refine (HKD.out _ _ ((Below.refl _ _).alloc (Nat.le_refl _) _) (Row.lits _ _ 1 [[.int .i64 1], [.int .i64 0], [.int .i64 2], [.int .i64 3]] _ rfl (by simp) _ rfl)).mono ?_; rintro e w1 ⟨rfl, hb1⟩; have pb1 := below_one hb1)
              | (go_at_call 40; refine (flat_own [.tbl rows] _ _ (HPART.out _ pb1) (by simpa using HGA.out.fits) (by simp) (by rw [flats_tbl]; exact hfl)).mono ?_; rintro e w2 ⟨v2, rfl, hown2, hb2⟩))
            have pb2 := below_next pb1 pb1.size hb2
            rw [flats_tbl, ← HVV.out] at hown2
            obtain ⟨A3, c3, hv3, _⟩ := hown2.len
            rw [List.length_map] at hv3
            subst hv3
            have HS2 : Hid (RowS w2 (Off (w.heap.size + 2) w2 u7) 5 (.slice A3 V.length c3) (V.map FV.list)) := hown2.rowS.mono (off_new (HST.out.own.below pb1) (Nat.le_trans HST.out.size pb1.size))
            have HO2 : Hid (Own w2 (w.heap.size + 2) 31 5 u7 ((memA (al.take k)).map FV.list)) := HST.out.own.below pb2
            have PB2 := Lib.hid pb2
            clear hown2 hb1 hb2 pb1 pb2 cr fr cb fb
            go_loopw [7, 12] (fun out j wx => ∃ m : Nat, m ≤ V.length ∧ j = .int .i64 m ∧ Own wx (w.heap.size + 2) 31 5 out ((memA (al.take k) ++ filt (V.take m)).map FV.list) ∧ RowS wx (Off (w.heap.size + 2) wx out) 5 (.slice A3 V.length c3) (V.map FV.list) ∧ Below (w.heap.size + 2) w2 wx) (fun _ j _ => V.length - (intOf j).toNat)
            case atStart => exact ⟨0, Nat.zero_le _, rfl, by have := HO2.out; simpa [filt] using this, HS2.out, Below.refl _ _⟩
            case round =>
              obtain ⟨m, hm, rfl, hox, hsx, hbx⟩ := hrel
              by_cases hmt : m < V.length
              · obtain ⟨x, hx⟩ : ∃ x, V[m]? = some x := ⟨_, List.getElem?_eq_getElem hmt⟩
                obtain ⟨g3, o3, c4, e, _, hg3, hcell3⟩ := (hsx.row (B := wr.heap.size) fun b h => h.2.1).at_ (show (V.map FV.list)[m]? = some (FV.list x) by rw [List.getElem?_map, hx]; rfl)
                injection e with e1 e2 e3
                subst e1
                clear e2 e3
                have p0 := hcell3 0 _ rfl
                have p1 := hcell3 1 _ rfl
                have p2 := hcell3 2 _ rfl
                have p3 := hcell3 3 _ rfl
                have p4 := hcell3 4 _ rfl
                simp only [Nat.add_zero] at p0
                have HFS := Lib.hid (filt_snoc V m x hx)
                have HM : Hid (m < V.length) := hmt
                have HLen : Hid (((memA (al.take k) ++ filt (V.take m)).map FV.list).length + 1 ≤ 2000001) := by
                  have h1 := HML.out
                  rw [HMS.out, List.length_append] at h1
                  have h2 : (filt (V.take m)).length ≤ V.length := Nat.le_trans (List.length_filter_le _ _) (by rw [List.length_take]; omega)
                  have h3 := HVL.out
                  have h4 := HN2.out
                  rw [Hid, List.length_map, List.length_append]
                  omega
                have HSX := Lib.hid hsx
                have HOX := Lib.hid hox
                have HBX := Lib.hid hbx
                clear hx hcell3 hsx hox hbx hmt hm
                by_cases h1 : x.kind = 1
                · have t1 : (x.kind == 1) = true := by simpa using h1
                  have H1 := Lib.hid h1
                  clear h1
                  go_wp2_with (at_builtin; refine app_off (w0 := w2) (w.heap.size + 2) rfl (.tmp 70) (.tmp 75) 26 31 _ 5 64 rfl Tryz.underlying26 valInfo rfl (by omega) (by omega) _ _ (FV.list x) rfl rfl rfl (by simp [FV.list, Value.oneCell']) (by simp) HOX.out HBX.out (Nat.le_trans (Nat.le_trans HST.out.size PB2.out.size) HBX.out.size) (len_two HLen.out) ?_; intro v4 w4 hown4 hb4 _ hg4 hat4)
                  have hmt := HM.out
                  obtain ⟨k1, k2⟩ := grown_off (lo := w.heap.size + 2) hg4 hat4
                  have HK12 := Lib.hid ((HSX.out.keep k1).mono k2)
                  clear k1 k2
                  go_roundw
                  case rel => exact ⟨m + 1, by omega, by go_num, by rw [HFS.out, if_pos H1.out, ← List.append_assoc, List.map_append]; exact hown4, HK12.out, hb4⟩
                  case measure => simp [intOf]; omega
                · have t1 : (x.kind == 1) = false := by simpa using h1
                  have H1 := Lib.hid h1
                  clear h1
                  go_wp2
                  have hmt := HM.out
                  go_roundw
                  case rel => exact ⟨m + 1, by omega, by go_num, by rw [HFS.out, if_neg H1.out, List.append_nil]; exact HOX.out, HSX.out, HBX.out⟩
                  case measure => simp [intOf]; omega
              · obtain rfl : m = V.length := by omega
                rw [List.take_length] at hox
                have hkk := HK.out
                have hnum : memA (al.take (k + 1)) = memA (al.take k) ++ filt V := by rw [HMS.out, HVV.out]; rfl
                have hbk := bad_keep al k _ HAK.out rfl
                have HNext : Hid (MSt false al w (k + 1) u7 wr) := by
                  have hs2 := HST.out.size
                  refine ⟨hkk, all_snoc _ al k _ HAK.out HST.out.fine HFB.out.symm, by rw [hnum]; exact hox, ?_, ?_, HST.out.below.trans (((PB2.out).mono HST.out.below.size).trans (hbx.mono (by omega))), Nat.le_trans (Nat.le_trans HST.out.size PB2.out.size) hbx.size⟩
                  · rw [hbk.1]
                    exact (hbx.block _ (by omega)).trans ((PB2.out.block _ (by omega)).trans HST.out.bad)
                  · exact (hbx.block _ (by omega)).trans ((PB2.out.block _ (by omega)).trans HST.out.res)
                have HBB := Lib.hid hbk.2
                clear hox hsx hbx hm hmt hkk hnum hbk
                go_wp2
                have hlt := HK.out
                go_roundw
                case rel => exact ⟨k + 1, by go_num, HNext.out, by rw [HBB.out]⟩
                case measure => simp [intOf]; omega
    · obtain rfl : k = al.length := by omega
      have hst2 := hst
      have hfin := hst.fine
      have hown := hst.own
      have hbad := hst.bad
      rw [List.take_length] at hfin hown hbad
      rw [List.take_length]
      obtain ⟨A9, c9, hv9, _⟩ := hown.len
      subst hv9
      clear cb fb
      obtain ⟨cb, fb, zb⟩ := row_facts hbad
      obtain ⟨nb, hnb⟩ : ∃ b, b = hasBad al := ⟨_, rfl⟩
      rw [← hnb]
      have b0 := cb 0
      have b1 := cb 1
      have b2 := cb 2
      have b3 := cb 3
      have b4 := cb 4
      simp at b0 b1 b2 b3 b4
      have HNB := Lib.hid hnb
      have HOWN := Lib.hid hown
      have HFIN := Lib.hid hfin
      obtain ⟨X, hX⟩ : ∃ X, X = badV al := ⟨_, rfl⟩
      rw [← hX] at b0 b1 b2 b3
      have HX := Lib.hid hX
      clear hst hst2 hfin hown hbad hnb cb fb hX hlt
      go_wp2
      go_region_held3 (fun w' => w'.cell? ⟨w.heap.size + 1, 0, none⟩ = some (.int .i64 X.kind) ∧ w'.cell? ⟨w.heap.size + 1, 1, none⟩ = some (.int .i64 X.num) ∧ w'.cell? ⟨w.heap.size + 1, 2, none⟩ = some (.int .i64 X.den) ∧ w'.cell? ⟨w.heap.size + 1, 3, none⟩ = some (.string X.text) ∧ w'.cell? ⟨w.heap.size + 1, 4, none⟩ = some (.slice none 0 0))
        (first | go_keep) (fail)
      go_wp2_with fail
      refine bodyPost_ret (v := .tuple #[.slice A9 (memA al).length c9, .agg #[.int .i64 X.kind, .int .i64 X.num, .int .i64 X.den, .string X.text, .slice none 0 0], .bool (!nb)]) (by simp [results, Tryz.results190, go_sem, cr]) rfl ?_
      clear cr fr zr b0 b1 b2 b3 b4
      have pbw := HST.out.below
      have pbs : Below w.heap.size w (((((wr.setCell ⟨w.heap.size, 0, none⟩ (.int .i64 X.kind)).setCell ⟨w.heap.size, 1, none⟩ (.int .i64 X.num)).setCell ⟨w.heap.size, 2, none⟩ (.int .i64 X.den)).setCell ⟨w.heap.size, 3, none⟩ (.string X.text)).setCell ⟨w.heap.size, 4, none⟩ (.slice none 0 0)).drew := by
        have q : Below w.heap.size w (((((wr.setCell ⟨w.heap.size, 0, none⟩ (.int .i64 X.kind)).setCell ⟨w.heap.size, 1, none⟩ (.int .i64 X.num)).setCell ⟨w.heap.size, 2, none⟩ (.int .i64 X.den)).setCell ⟨w.heap.size, 3, none⟩ (.string X.text)).setCell ⟨w.heap.size, 4, none⟩ (.slice none 0 0)) := by
          (repeat refine below_set0 ?_ _ _)
          exact pbw
        exact ⟨q.os, q.tape, q.output, q.size, q.block⟩
      refine ⟨pbs, ?_, ?_⟩
      · intro h
        rw [HFIN.out] at h
        cases h
      · intro _
        refine ⟨_, by rw [← HX.out, ← HNB.out], ?_⟩
        have hr9 := HOWN.out.rowS
        rw [List.length_map] at hr9
        refine RowS.row (S := fun b => w.heap.size + 2 ≤ b ∧ b < wr.heap.size) (hr9.keep fun b hb => ?_) fun b hb => ?_
        · have hne : b ≠ w.heap.size := by omega
          exact (Below.heap_setCell _ _ _ _ hne).trans ((Below.heap_setCell _ _ _ _ hne).trans ((Below.heap_setCell _ _ _ _ hne).trans ((Below.heap_setCell _ _ _ _ hne).trans (Below.heap_setCell _ _ _ _ hne))))
        · exact Nat.lt_of_lt_of_le hb.2 (by simp [World.setCell, World.drew])

end Go.Proofs.YtkglbccdiofnkaaGreatDoor
