/-
The laws' arguments: zzFits1, with.
-/
import Derived.Test.YtkglbccdiofnkaaGreatDoorTable
import Derived.Test.YtkglbccdiofnkaaGreatDoorTabG
import Derived.Test.YtkglbccdiofnkaaGreatDoorProdP
namespace Go.Proofs.YtkglbccdiofnkaaGreatDoor
open Go.RowKit

def fitB (its : List It) : Bool := decide (its.length ≤ 2147483647) && its.all fun x => decide (x.text.size ≤ 2147483647)
theorem fitB_len {its : List It} (h : fitB its = true) : its.length ≤ 2147483647 := by
  unfold fitB at h
  rw [Bool.and_eq_true] at h
  exact of_decide_eq_true h.1
theorem fitB_text {its : List It} (h : fitB its = true) : ∀ x ∈ its, x.text.size ≤ 2147483647 := by
  unfold fitB at h
  rw [Bool.and_eq_true, List.all_eq_true] at h
  exact fun x hx => of_decide_eq_true (h.2 x hx)

set_option maxRecDepth 100000 in
theorem fits2_any (k n : Int) (t : ByteArray) (w : World) :
    Calls Tryz.prog 22 #[.agg #[.int .i64 k, .int .i64 n, .string t]] w fun e w' => e = .returned (.bool (decide (t.size ≤ 2147483647))) ∧ Below w.heap.size w w' := by
  by_cases h : t.size ≤ 2147483647
  · have h1 : ¬ (2147483647 : Int) < (t.size : Int) := by omega
    have e : decide (t.size ≤ 2147483647) = true := by simpa using h
    rw [e]
    clear h e
    go_enter Tryz.func22, Tryz.ntmps22
    go_wp2
    go_ret
    exact ⟨rfl, (Below.refl _ _).alloc (Nat.le_refl _) _⟩
  · have h1 : (2147483647 : Int) < (t.size : Int) := by omega
    have e : decide (t.size ≤ 2147483647) = false := by simpa using h
    rw [e]
    clear h e
    go_enter Tryz.func22, Tryz.ntmps22
    go_wp2
    go_ret
    exact ⟨rfl, (Below.refl _ _).alloc (Nat.le_refl _) _⟩

set_option maxRecDepth 100000 in
set_option maxHeartbeats 1000000 in
theorem fits1_any (its : List It) (v : Value) (w : World) (hr : Row w w.heap.size 3 v (its.map It.list)) :
    Calls Tryz.prog 9 #[v] w fun e w' => e = .returned (.bool (fitB its)) ∧ Below w.heap.size w w' := by
  have hu40 := Tryz.underlying40
  have HR := Lib.hid hr
  obtain ⟨A, c, rfl⟩ : ∃ A c, v = .slice A its.length c := by
    obtain ⟨A, c, h, _⟩ := hr
    exact ⟨A, c, by rw [List.length_map] at h; exact h⟩
  clear hr
  by_cases hn : its.length ≤ 2147483647
  · have h1 : ¬ (2147483647 : Int) < (its.length : Int) := by omega
    have HN : Hid (fitB its = its.all fun x => decide (x.text.size ≤ 2147483647)) := by unfold fitB; simp [Hid, hn]
    rw [HN.out]
    go_enter Tryz.func9, Tryz.ntmps9
    go_wp2
    go_loopw [10] (fun i wr => ∃ k : Nat, k ≤ its.length ∧ i = .int .i64 k ∧ ((its.take k).all fun x => decide (x.text.size ≤ 2147483647)) = true ∧ Below w.heap.size w wr) (fun i _ => its.length - (intOf i).toNat)
    case atStart => exact ⟨0, Nat.zero_le _, rfl, rfl, Below.refl _ _⟩
    case round =>
      obtain ⟨k, hk, rfl, hall, hb⟩ := hrel
      have HA := Lib.hid hall
      clear hall
      by_cases hlt : k < its.length
      · obtain ⟨x, hx⟩ : ∃ x, its[k]? = some x := ⟨_, List.getElem?_eq_getElem hlt⟩
        have hmap : (its.map It.list)[k]? = some x.list := by rw [List.getElem?_map, hx]; rfl
        obtain ⟨g, o, c', e, _, hg, hcell⟩ := HR.out.at_ hmap
        injection e with e1 e2 e3
        subst e1
        clear e2 e3
        have q0 := (hb.cell (p := ⟨g, o + k * 3 + 0, none⟩) hg).trans (hcell 0 _ rfl)
        have q1 := (hb.cell (p := ⟨g, o + k * 3 + 1, none⟩) hg).trans (hcell 1 _ rfl)
        have q2 := (hb.cell (p := ⟨g, o + k * 3 + 2, none⟩) hg).trans (hcell 2 _ rfl)
        simp only [Nat.add_zero] at q0
        have HX := Lib.hid hx
        have HK : Hid (k < its.length) := hlt
        clear hmap hcell hx
        cases hp : decide (x.text.size ≤ 2147483647) with
        | true =>
          have HP := Lib.hid hp
          clear hp
          go_wp2_with (go_at_call 22; refine (fits2_any x.kind x.num x.text _).mono ?_; rintro e w1 ⟨rfl, hb1⟩; rw [HP.out])
          have hlt := HK.out
          go_roundw
          case rel => exact ⟨k + 1, by omega, by go_num, by rw [List.take_add_one, HX.out, List.all_append, HA.out]; simp [HP.out], hb.trans (Below.mono (by first | exact hb1 | exact below_one hb1) hb.size)⟩
          case measure => simp [intOf]; omega
        | false =>
          have HP := Lib.hid hp
          have HM : Hid ((its.all fun x => decide (x.text.size ≤ 2147483647)) = false) := by
            rw [Hid, List.all_eq_false]
            exact ⟨x, List.mem_of_getElem? HX.out, by simp [hp]⟩
          clear hp
          go_wp2_with (go_at_call 22; refine (fits2_any x.kind x.num x.text _).mono ?_; rintro e w1 ⟨rfl, hb1⟩; rw [HP.out])
          go_ret
          exact ⟨by rw [HM.out]; rfl, hb.trans (Below.mono (by first | exact hb1 | exact below_one hb1) hb.size)⟩
      · obtain rfl : k = its.length := by omega
        have HM : Hid ((its.all fun x => decide (x.text.size ≤ 2147483647)) = true) := by have := HA.out; rwa [List.take_length] at this
        go_wp2
        go_ret
        exact ⟨by rw [HM.out]; rfl, hb⟩
  · have h1 : (2147483647 : Int) < (its.length : Int) := by omega
    have e : fitB its = false := by unfold fitB; simp [hn]
    rw [e]
    clear e
    go_enter Tryz.func9, Tryz.ntmps9
    go_wp2
    go_ret
    exact ⟨rfl, Below.refl _ _⟩

/-- The arguments that 'with' makes. -/
def withA (its : List It) (cols : Int) (more : List It) : List Arg := .tbl (tblI its cols) :: (more.take 10).map fun x => .one x.fv
theorem take10 (more : List It) (k : Nat) (x : It) (h : more[k]? = some x) (rows : List (List FV)) : Arg.tbl rows :: (more.take (k + 1)).map (fun x => Arg.one x.fv) = (Arg.tbl rows :: (more.take k).map fun x => Arg.one x.fv) ++ [.one x.fv] := by
  rw [List.take_add_one, h]
  simp

theorem with_end {w1 wr : World} {rv out : Value} {rows : List (List FV)} {L : List It} {cs0 : List Value} (hT : TRow w1 w1.heap.size rv rows)
    (hown : Own wr w1.heap.size 31 5 out (cs0 :: L.map fun x => FV.list x.fv)) (hb : Below w1.heap.size w1 wr) (hc : cs0 = [.int .i64 5, .int .i64 0, .int .i64 0, .string ⟨#[]⟩, rv]) :
    ARow wr wr.heap.size out (.tbl rows :: L.map fun x => Arg.one x.fv) := by
  refine ⟨_, hown.row, by simp, fun i cc a hcc ha => ?_⟩
  cases i with
  | zero =>
    simp only [List.getElem?_cons_zero, Option.some.injEq] at hcc ha
    subst hcc
    subst ha
    exact ⟨rv, hc, (hT.below hb).more hb.size⟩
  | succ i =>
    simp only [List.getElem?_cons_succ, List.getElem?_map] at hcc ha
    cases hl : L[i]? with
    | none => rw [hl] at ha; cases ha
    | some x =>
      rw [hl] at hcc ha
      simp only [Option.map_some, Option.some.injEq] at hcc ha
      subst hcc
      subst ha
      rfl

set_option maxRecDepth 100000 in
set_option maxHeartbeats 2000000 in
theorem with_any (its : List It) (cols : Int) (more : List It) (v mv : Value) (w : World) (hr : Row w w.heap.size 3 v (its.map It.list)) (hm : Row w w.heap.size 3 mv (more.map It.list)) (hn : its.length ≤ 2147483647) (hn2 : more.length ≤ 2147483647) :
    Calls Tryz.prog 12 #[v, .int .i64 cols, mv] w fun e w' => ∃ v', e = .returned v' ∧ ARow w' w'.heap.size v' (withA its cols more) ∧ Below w.heap.size w w' := by
  have hu26 := Tryz.underlying31
  have hu40 := Tryz.underlying40
  have HR := Lib.hid hr
  have HM := Lib.hid hm
  have HN := Lib.hid hn
  obtain ⟨A, c, rfl⟩ : ∃ A c, mv = .slice A more.length c := by
    obtain ⟨A, c, h, _⟩ := hm
    exact ⟨A, c, by rw [List.length_map] at h; exact h⟩
  obtain ⟨A0, c0, rfl⟩ : ∃ A c, v = .slice A its.length c := by
    obtain ⟨A, c, h, _⟩ := hr
    exact ⟨A, c, by rw [List.length_map] at h; exact h⟩
  clear hr hm hn
  go_enter Tryz.func12, Tryz.ntmps12
  go_wp2_with (go_at_call 14; refine (table_law its cols _ _ HR.out HN.out).mono ?_; rintro e w1 ⟨rv, rfl, hT, hb1⟩)
  obtain ⟨cs0, hcs0⟩ : ∃ l : List Value, l = [.int .i64 5, .int .i64 0, .int .i64 0, .string ⟨#[]⟩, rv] := ⟨_, rfl⟩
  obtain ⟨W1, hW1⟩ : ∃ W1 : World, W1 = w1.alloc (.cells #[.int .i64 5, .int .i64 0, .int .i64 0, .string ⟨#[]⟩, rv] 31) := ⟨_, rfl⟩
  have HW1 := Lib.hid hW1.symm
  have hown0 : Own W1 w1.heap.size 31 5 (.slice (some ⟨w1.heap.size, 0, none⟩) 1 1) [cs0] := by
    rw [hW1, hcs0]
    exact ⟨World.ownsRow_lit w1 #[.int .i64 5, .int .i64 0, .int .i64 0, .string ⟨#[]⟩, rv] 1 (Nat.le_refl _) (by decide) rfl, by intro x hx; rw [List.mem_singleton.1 hx]; rfl⟩
  have hB0 : Below w1.heap.size w1 W1 := by rw [hW1]; exact (Below.refl _ _).alloc (Nat.le_refl _) _
  have HO0 := Lib.hid hown0
  have HB0 := Lib.hid hB0
  have HT := Lib.hid hT
  have HB1 := Lib.hid hb1
  have HC0 := Lib.hid hcs0
  clear hW1 hown0 hB0 hT hb1 hcs0
  go_loopw [7, 8] (fun out i wr => ∃ k : Nat, k ≤ more.length ∧ k ≤ 10 ∧ i = .int .i64 k ∧ Own wr w1.heap.size 31 5 out (cs0 :: (more.take k).map fun x => FV.list x.fv) ∧ Below w1.heap.size w1 wr) (fun _ i _ => more.length - (intOf i).toNat)
  case atStart =>
    rw [HW1.out]
    exact ⟨0, Nat.zero_le _, Nat.zero_le _, rfl, HO0.out, HB0.out⟩
  case round =>
    obtain ⟨k, hk, hk2, rfl, hown, hb⟩ := hrel
    have HOWN := Lib.hid hown
    have HB := Lib.hid hb
    by_cases hlt : k < more.length
    · by_cases hlt2 : k < 10
      · obtain ⟨x, hx⟩ : ∃ x, more[k]? = some x := ⟨_, List.getElem?_eq_getElem hlt⟩
        have hmap : (more.map It.list)[k]? = some x.list := by rw [List.getElem?_map, hx]; rfl
        obtain ⟨g, o, c', e, _, hg, hcell⟩ := HM.out.at_ hmap
        injection e with e1 e2 e3
        subst e1
        clear e2 e3
        have hbw := HB1.out.trans (hb.mono HB1.out.size)
        have q0 := (hbw.cell (p := ⟨g, o + k * 3 + 0, none⟩) hg).trans (hcell 0 _ rfl)
        have q1 := (hbw.cell (p := ⟨g, o + k * 3 + 1, none⟩) hg).trans (hcell 1 _ rfl)
        have q2 := (hbw.cell (p := ⟨g, o + k * 3 + 2, none⟩) hg).trans (hcell 2 _ rfl)
        simp only [Nat.add_zero] at q0
        obtain ⟨r, hr9⟩ : ∃ r, r = x.fv := ⟨_, rfl⟩
        have HV : Hid (∀ W, Calls Tryz.prog 31 #[.agg #[.int .i64 x.kind, .int .i64 x.num, .string x.text]] W fun e w' => e = .returned (.agg #[.int .i64 r.kind, .int .i64 r.num, .int .i64 r.den, .string r.text, .slice none 0 0]) ∧ Below W.heap.size W w') := by
          rw [hr9]; exact fun W => val_any _ _ _ W
        have HX : Hid ((cs0 :: (more.take (k + 1)).map fun x => FV.list x.fv) = (cs0 :: (more.take k).map fun x => FV.list x.fv) ++ [FV.list r]) := by
          rw [Hid, List.take_add_one, hx, hr9]
          simp
        have HK : Hid (k < more.length) := hlt
        have HLen : Hid (((cs0 :: (more.take k).map fun x => FV.list x.fv).length + 1) * 64 ≤ 140737488355328) := by
          rw [Hid, List.length_cons, List.length_map, List.length_take]
          omega
        clear hmap hcell hx hown hb hbw hr9
        go_wp2_with (first
          | (go_at_call 31; refine (HV.out _).mono ?_; rintro e w2 ⟨rfl, hb2⟩)
          | (at_builtin; refine app_one w1.heap.size rfl (.tmp 23) (.tmp 29) 26 31 _ 5 64 rfl Tryz.underlying26 valInfo rfl (by omega) (by omega) _ _ (FV.list r) rfl rfl rfl (by simp [FV.list, Value.oneCell']) (by simp) (HOWN.out.below hb2) (HB.out.trans (hb2.mono HB.out.size)) (Nat.le_trans HB.out.size hb2.size) HLen.out ?_; intro v4 w4 hown4 hb4 _))
        have hlt := HK.out
        go_roundw
        case rel => exact ⟨k + 1, by omega, by omega, by go_num, by rw [HX.out]; exact hown4, hb4⟩
        case measure => simp [intOf]; omega
      · obtain rfl : k = 10 := by omega
        clear hown hb
        go_wp2
        go_ret
        exact ⟨_, rfl, with_end HT.out HOWN.out HB.out HC0.out, HB1.out.trans (HB.out.mono HB1.out.size)⟩
    · obtain rfl : k = more.length := by omega
      have HFin : Hid (withA its cols more = .tbl (tblI its cols) :: (more.take more.length).map fun x => Arg.one x.fv) := by
        rw [Hid, List.take_length]
        unfold withA
        rw [List.take_of_length_le hk2]
      clear hown hb
      go_wp2
      go_ret
      exact ⟨_, rfl, by rw [HFin.out]; exact with_end HT.out HOWN.out HB.out HC0.out, HB1.out.trans (HB.out.mono HB1.out.size)⟩

/-! What the arguments are that 'with' makes: lengths, and that they are good. -/

theorem frW_ok (m : Int) : (fr m).ok := by
  by_cases h : nn m ≤ 99999999999 ∧ -99999999999 ≤ nn m
  · rw [fr_in h]
    exact ⟨by simp, fun _ => ⟨h.1, h.2, nd_cases m⟩, fun h => by simp at h⟩
  · rw [fr_out h]
    exact ⟨by simp, fun h => by simp at h, fun h => by simp at h⟩
theorem iv_ok (k n : Int) (t : ByteArray) : (iv k n t).ok := by
  unfold iv
  split
  · exact frW_ok _
  · split
    · exact frW_ok _
    · split
      · exact ⟨by simp, fun h => by simp at h, fun h => by simp at h⟩
      · split
        · unfold bv
          split <;> exact ⟨by simp, fun h => by simp at h, fun _ => by simp⟩
        · split
          · exact ⟨by simp, fun h => by simp at h, fun h => by simp at h⟩
          · exact ⟨by simp, fun h => by simp at h, fun h => by simp at h⟩
theorem blank_ok : (⟨0, 0, 0, ⟨#[]⟩⟩ : FV).ok := ⟨by simp, fun h => by simp at h, fun h => by simp at h⟩

theorem rowsN_bd (n c : Nat) (h : n ≤ 120) : 1 ≤ rowsN n c ∧ rowsN n c ≤ 120 := by
  unfold rowsN
  have := Nat.div_le_self n c
  split
  · omega
  · rename_i h0
    exact ⟨Nat.one_le_iff_ne_zero.2 h0, Nat.le_trans this h⟩
theorem tblI_len (its : List It) (cols : Int) : 1 ≤ (tblI its cols).length ∧ (tblI its cols).length ≤ 120 := by
  unfold tblI
  rw [tblOf_length]
  exact rowsN_bd _ _ (by rw [List.length_map, List.length_take]; omega)
theorem tblI_row (its : List It) (cols : Int) (r : List FV) (h : r ∈ tblI its cols) : r.length ≤ 6 ∧ 1 ≤ r.length ∧ ∀ v ∈ r, v.ok := by
  obtain ⟨i, _, rfl⟩ := List.mem_map.1 (show r ∈ (List.range _).map _ from h)
  rw [rowOf_length]
  refine ⟨(colsN_bd cols).2.1, (colsN_bd cols).1, fun v hv => ?_⟩
  obtain ⟨k, _, rfl⟩ := List.mem_map.1 (show v ∈ (List.range _).map _ from hv)
  rw [List.getD_eq_getElem?_getD]
  cases hx : ((its.take 120).map It.fv)[i * colsN cols + k]? with
  | none => exact blank_ok
  | some x =>
    obtain ⟨y, _, rfl⟩ := List.mem_map.1 (List.mem_of_getElem? hx)
    exact iv_ok _ _ _
theorem flatten_bd : ∀ (rows : List (List FV)) (n : Nat), (∀ r ∈ rows, r.length ≤ n) → rows.flatten.length ≤ rows.length * n := by
  intro rows n
  induction rows with
  | nil => intro _; simp
  | cons r rs ih =>
    intro h
    have h1 := h r (List.mem_cons_self ..)
    have h2 := ih fun x hx => h x (List.mem_cons_of_mem _ hx)
    rw [List.flatten_cons, List.length_append, List.length_cons, Nat.succ_mul]
    omega
theorem tblI_flat (its : List It) (cols : Int) : (tblI its cols).flatten.length ≤ 720 := by
  have h := flatten_bd (tblI its cols) 6 fun r hr => (tblI_row its cols r hr).1
  have := (tblI_len its cols).2
  omega

theorem withA_rows (its : List It) (cols : Int) (more : List It) : ∀ rows, Arg.tbl rows ∈ withA its cols more → 0 < rows.length := by
  intro rows h
  rcases List.mem_cons.1 (show Arg.tbl rows ∈ Arg.tbl (tblI its cols) :: _ from h) with h | h
  · injection h with h
    rw [h]
    exact (tblI_len its cols).1
  · obtain ⟨x, _, hx⟩ := List.mem_map.1 h
    cases hx
theorem withA_good (its : List It) (cols : Int) (more : List It) : ∀ a ∈ withA its cols more, a.good := by
  intro a h
  rcases List.mem_cons.1 (show a ∈ Arg.tbl (tblI its cols) :: _ from h) with h | h
  · rw [h]
    refine ⟨Nat.le_trans (tblI_len its cols).2 (by omega), fun r hr => Nat.le_trans (tblI_row its cols r hr).1 (by omega), fun r hr => (tblI_row its cols r hr).2.2⟩
  · obtain ⟨x, _, rfl⟩ := List.mem_map.1 h
    exact iv_ok _ _ _
theorem withA_len (its : List It) (cols : Int) (more : List It) : (withA its cols more).length ≤ 1000000 := by
  unfold withA
  rw [List.length_cons, List.length_map, List.length_take]
  omega
theorem withA_flats (its : List It) (cols : Int) (more : List It) : (flats (withA its cols more)).length ≤ 1000000 := by
  have e : flats (withA its cols more) = (tblI its cols).flatten ++ (more.take 10).map It.fv := by
    unfold flats withA
    rw [List.flatMap_cons, List.flatMap_map]
    congr 1
    induction more.take 10 with
    | nil => rfl
    | cons x l ih => rw [List.flatMap_cons, ih]; rfl
  rw [e, List.length_append, List.length_map, List.length_take]
  have := tblI_flat its cols
  omega

end Go.Proofs.YtkglbccdiofnkaaGreatDoor
