/-
The laws' tables: table, with.
-/
import Derived.Test.YtkglbccdiofnkaaGreatDoorItem
import Derived.Test.YtkglbccdiofnkaaGreatDoorTabs
import Derived.Deep.CutRange
namespace Go.Proofs.YtkglbccdiofnkaaGreatDoor
open Go.RowKit

/-- A cell as plain data. -/
structure It where
  kind : Int
  num : Int
  text : ByteArray
def It.list (x : It) : List Value := [.int .i64 x.kind, .int .i64 x.num, .string x.text]
/-- Its value. -/
def It.fv (x : It) : FV := iv x.kind x.num x.text
/-- How many columns. -/
def colsN (cols : Int) : Nat := (1 + partI cols 6).toNat
theorem colsN_bd (cols : Int) : 1 ≤ colsN cols ∧ colsN cols ≤ 6 ∧ ((colsN cols : Nat) : Int) = 1 + partI cols 6 := by
  obtain ⟨h1, h2⟩ := partI_bd cols 6 (by decide)
  unfold colsN
  omega
def rowsN (n c : Nat) : Nat := if n / c = 0 then 1 else n / c
/-- Row i of such a table. -/
def rowOf (L : List FV) (c i : Nat) : List FV := (List.range c).map fun k => L.getD (i * c + k) ⟨0, 0, 0, ⟨#[]⟩⟩
def tblOf (L : List FV) (c : Nat) : List (List FV) := (List.range (rowsN L.length c)).map (rowOf L c)
/-- The table of some cells. -/
def tblI (its : List It) (cols : Int) : List (List FV) := tblOf ((its.take 120).map It.fv) (colsN cols)

theorem rowOf_snoc (L : List FV) (c i k : Nat) (hk : k < c) : (rowOf L c i).take (k + 1) = (rowOf L c i).take k ++ [L.getD (i * c + k) ⟨0, 0, 0, ⟨#[]⟩⟩] := by
  rw [List.take_add_one]
  congr 1
  unfold rowOf
  rw [List.getElem?_map, List.getElem?_range hk]
  rfl
theorem rowOf_length (L : List FV) (c i : Nat) : (rowOf L c i).length = c := by unfold rowOf; simp
theorem tblOf_snoc (L : List FV) (c i : Nat) (hi : i < rowsN L.length c) : (tblOf L c).take (i + 1) = (tblOf L c).take i ++ [rowOf L c i] := by
  rw [List.take_add_one]
  congr 1
  unfold tblOf
  rw [List.getElem?_map, List.getElem?_range hi]
  rfl
theorem tblOf_length (L : List FV) (c : Nat) : (tblOf L c).length = rowsN L.length c := by unfold tblOf; simp

theorem idx_nums {k D m : Nat} (hk : k ≤ 121) (hD : D ≤ 5) (hm : m ≤ D) : wrap64 ((k : Int) * (1 + (D : Int))) = (k : Int) * (1 + (D : Int)) ∧ wrap64 ((k : Int) * (1 + (D : Int)) + (m : Int)) = ((k * (D + 1) + m : Nat) : Int) := by
  have h := Nat.mul_le_mul hk (Nat.succ_le_succ hD)
  have e : (k : Int) * (1 + (D : Int)) = ((k * (D + 1) : Nat) : Int) := by rw [Int.natCast_mul, Int.natCast_add, Int.add_comm]; rfl
  rw [e]
  obtain ⟨P, hP⟩ : ∃ P, P = k * (D + 1) := ⟨_, rfl⟩
  rw [← hP] at h ⊢
  have h2 : P ≤ 726 := h
  constructor <;> (unfold wrap64; omega)
theorem lt_cast {m D : Nat} (h : m < D + 1) : (m : Int) < 1 + (D : Int) := by omega
theorem len_small {n : Nat} (h : n + 1 ≤ 7) : (n + 1) * 64 ≤ 140737488355328 := by omega
theorem wrap_succ {m : Nat} (h : m ≤ 1000) : wrap64 ((m : Int) + 1) = ((m + 1 : Nat) : Int) := by
  unfold wrap64
  omega
theorem meas_small {m D : Nat} (h : m < D + 1) (h5 : D ≤ 5) : D + 1 - (intOf (.int .i64 (wrap64 ((m : Int) + 1)))).toNat < D + 1 - (intOf (.int .i64 (m : Int))).toNat := by
  rw [wrap_succ (by omega)]
  simp only [intOf, Int.toNat_natCast]
  omega
theorem num_small {m R : Nat} (h : m < R) (h5 : R ≤ 1000) : Value.int .i64 (wrap64 ((m : Int) + 1)) = .int .i64 ((m + 1 : Nat) : Int) := by
  rw [wrap_succ (by omega)]
theorem meas_rows {k R : Nat} (h : k < R) (h5 : R ≤ 1000) : R - (intOf (.int .i64 (wrap64 ((k : Int) + 1)))).toNat < R - (intOf (.int .i64 (k : Int))).toNat := by
  rw [wrap_succ (by omega)]
  simp only [intOf, Int.toNat_natCast]
  omega
theorem rows_small {k R : Nat} {rs : List Value} (h : rs.length = k) (h1 : k < R) (h2 : R ≤ 121) : ((rs.map fun r => [r]).length + 1) * 24 ≤ 140737488355328 := by
  rw [List.length_map, h]
  omega
theorem valRowInfo : (Tryz.prog.info? 26).map (fun i => (i.zero, i.size, i.bytes)) = some (some (.slice none 0 0), 1, 24) := by kernel_rfl
theorem item_at {its : List It} {LF : List FV} {L N : Nat} (hLF : LF = (its.take 120).map It.fv) (hL : L = min 120 its.length) (h : N < L) : ∃ x, its[N]? = some x ∧ LF.getD N ⟨0, 0, 0, ⟨#[]⟩⟩ = iv x.kind x.num x.text := by
  obtain ⟨x, hx⟩ : ∃ x, its[N]? = some x := ⟨_, List.getElem?_eq_getElem (by omega)⟩
  refine ⟨x, hx, ?_⟩
  rw [hLF, List.getD_eq_getElem?_getD, List.getElem?_map, List.getElem?_take_of_lt (by omega), hx]
  rfl
theorem rows_le (n c : Nat) : rowsN n c ≤ n + 1 := by
  unfold rowsN
  have := Nat.div_le_self n c
  split <;> omega
theorem slice_some {w : World} {B sz n c : Nat} {A : Option Addr} {cs : List (List Value)} (h : Row w B sz (.slice A n c) cs) (h0 : 0 < cs.length) : cs.length ≤ c ∧ ∃ g o, A = some ⟨g, o, none⟩ := by
  obtain ⟨A', c', e, h1, _, h3⟩ := h
  injection e with e1 e2 e3
  subst e1 e3
  obtain ⟨g, o, h4, _⟩ := h3 h0
  exact ⟨h1, g, o, h4⟩

set_option maxRecDepth 100000 in
set_option maxHeartbeats 4000000 in
theorem table_law (its : List It) (cols : Int) (v : Value) (w : World) (hr : Row w w.heap.size 3 v (its.map It.list)) (hn : its.length ≤ 2147483647) :
    Calls Tryz.prog 14 #[v, .int .i64 cols] w fun e w' => ∃ rv, e = .returned (.agg #[.int .i64 5, .int .i64 0, .int .i64 0, .string ⟨#[]⟩, rv]) ∧ TRow w' w'.heap.size rv (tblI its cols) ∧ Below w.heap.size w w' := by
  have hu26 := Tryz.underlying31
  obtain ⟨h0, h6⟩ := partI_bd cols 6 (by decide)
  obtain ⟨D, hD⟩ : ∃ D : Nat, partI cols 6 = (D : Int) := ⟨(partI cols 6).toNat, by omega⟩
  have hC : colsN cols = D + 1 := by unfold colsN; omega
  have hD5 : D ≤ 5 := by omega
  have HP : Hid (∀ W, Calls Tryz.prog 33 #[.int .i64 cols, .int .i64 6] W fun e w' => e = .returned (.int .i64 (D : Int)) ∧ W = w') := by
    rw [← hD]
    exact fun W => part_any cols 6 W (by decide) (by decide)
  have hw : wrap64 (1 + (D : Int)) = 1 + (D : Int) := by unfold wrap64; omega
  clear h0 h6 hD
  have HR : Hid (Row w w.heap.size 3 v (its.map It.list)) := hr
  obtain ⟨A, c, rfl⟩ : ∃ A c, v = .slice A its.length c := by
    obtain ⟨A, c, h, _⟩ := hr
    exact ⟨A, c, by rw [List.length_map] at h; exact h⟩
  clear hr
  obtain ⟨L, hL⟩ : ∃ L, L = min 120 its.length := ⟨_, rfl⟩
  go_enter Tryz.func14, Tryz.ntmps14
  go_upto_if 17 with (go_at_call 33; refine (HP.out _).mono ?_; rintro e w1 ⟨rfl, rfl⟩)
  go_cut [0] from 18 to 19 (fun a wx => a = .slice A L c ∧ wx = w.alloc (.cells #[.int .i64 0, .int .i64 0, .int .i64 0, .string ⟨#[]⟩, .slice none 0 0] 31))
  case first =>
    by_cases h120 : its.length ≤ 120
    · have hl1 : ¬ (120 : Int) < (its.length : Int) := by omega
      have hLe : L = its.length := by omega
      go_wp2_with fail
      go_meet
      exact ⟨by rw [hLe], rfl⟩
    · have hl1 : (120 : Int) < (its.length : Int) := by omega
      have hLe : L = 120 := by omega
      obtain ⟨hc1, g, o, rfl⟩ := slice_some HR.out (by rw [List.length_map]; omega)
      rw [List.length_map] at hc1
      have hc2 : (120 : Int) ≤ (c : Int) := by omega
      go_wp2_with fail
      go_meet
      exact ⟨by rw [hLe], rfl⟩
  case rest =>
  obtain ⟨rfl, rfl⟩ := hcut
  obtain ⟨Q, hQ⟩ : ∃ Q, Q = L / (D + 1) := ⟨_, rfl⟩
  obtain ⟨R, hR⟩ : ∃ R, R = rowsN L (D + 1) := ⟨_, rfl⟩
  have hq : (L : Int) / (1 + (D : Int)) = (Q : Int) := by
    rw [hQ, Int.natCast_ediv, Int.natCast_add, Int.add_comm]
    rfl
  have hQ2 : Q ≤ L := by rw [hQ]; exact Nat.div_le_self _ _
  have htd : (L : Int).tdiv (1 + (D : Int)) = (Q : Int) := by rw [Int.tdiv_eq_ediv_of_nonneg (by omega)]; exact hq
  have hwt : wrap64 (Q : Int) = (Q : Int) := by unfold wrap64; omega
  have hR0 : Q = 0 → R = 1 := fun h => by rw [hR, rowsN, ← hQ, if_pos h]
  have hR1 : Q ≠ 0 → R = Q := fun h => by rw [hR, rowsN, ← hQ, if_neg h]
  have HR0 : Hid (Q = 0 → R = 1) := hR0
  have HR1 : Hid (Q ≠ 0 → R = Q) := hR1
  have HL := Lib.hid hL
  have HRR := Lib.hid hR
  have HRB : Hid (R ≤ 121) := by
    rw [Hid, hR]
    exact Nat.le_trans (rows_le L (D + 1)) (by rw [hL]; exact Nat.succ_le_succ (Nat.min_le_left _ _))
  clear hR0 hR1 hq hQ hR hL
  go_upto_if 25 with fail
  go_cut [5] from 26 to 26 (fun a wx => a = .int .i64 (R : Int) ∧ wx = w.alloc (.cells #[.int .i64 0, .int .i64 0, .int .i64 0, .string ⟨#[]⟩, .slice none 0 0] 31))
  case first =>
    by_cases hQ0 : Q = 0
    · have h1 : ((Q : Int) == 0) = true := by rw [hQ0]; rfl
      have h2 := HR0.out hQ0
      go_wp2_with fail
      go_meet
      exact ⟨by rw [h2]; rfl, rfl⟩
    · have h1 : ((Q : Int) == 0) = false := beq_eq_false_iff_ne.2 (by omega)
      have h2 := HR1.out hQ0
      go_wp2_with fail
      go_meet
      exact ⟨by rw [h2, hwt], rfl⟩
  case rest =>
  obtain ⟨rfl, rfl⟩ := hcut
  obtain ⟨W0, hW0⟩ : ∃ W0 : World, W0 = w.alloc (.cells #[.int .i64 0, .int .i64 0, .int .i64 0, .string ⟨#[]⟩, .slice none 0 0] 31) := ⟨_, rfl⟩
  have pb0 : Below w.heap.size w W0 := by rw [hW0]; exact (Below.refl _ _).alloc (Nat.le_refl _) _
  have k0 : W0.heap[w.heap.size]? = some (.cells #[.int .i64 0, .int .i64 0, .int .i64 0, .string ⟨#[]⟩, .slice none 0 0] 31) := by rw [hW0]; exact heap_new1 _ _
  rw [← hW0]
  clear hW0 htd hwt hQ2 hn
  obtain ⟨LF, hLF⟩ : ∃ LF, LF = (its.take 120).map It.fv := ⟨_, rfl⟩
  have hLl : LF.length = L := by rw [hLF, List.length_map, List.length_take, HL.out]
  have HLL := Lib.hid hLl
  go_wp2
  go_loopw [6, 7] (fun s i wr => ∃ k : Nat, k ≤ R ∧ i = .int .i64 (k : Int) ∧ OwnR wr W0.heap.size 26 5 FV.list s ((tblOf LF (D + 1)).take k) ∧ Below W0.heap.size W0 wr) (fun _ i _ => R - (intOf i).toNat)
  case atStart => exact ⟨0, Nat.zero_le _, rfl, OwnR.nil_ _ _ _ _ _, Below.refl _ _⟩
  case round =>
    obtain ⟨k, hk, rfl, hown, hb⟩ := hrel
    have ⟨Wo, hWo⟩ : ∃ Wo, Wo = wr := ⟨wr, rfl⟩
    subst hWo
    by_cases hlt : k < R
    · have h1 : (k : Int) < (R : Int) := by omega
      have HK : Hid (k < R) := hlt
      have HO := Lib.hid hown
      have HB := Lib.hid hb
      clear hown hb hlt hk
      go_wp2
      go_loopw [8, 9] (fun s i wx => ∃ m : Nat, m ≤ D + 1 ∧ i = .int .i64 (m : Int) ∧ Own wx Wo.heap.size 31 5 s (((rowOf LF (D + 1) k).take m).map FV.list) ∧ Below Wo.heap.size Wo wx) (fun _ i _ => D + 1 - (intOf i).toNat)
      case atStart => exact ⟨0, Nat.zero_le _, rfl, Own.nil_ _ _ _ _, Below.refl _ _⟩
      case round =>
        obtain ⟨m, hm, rfl, hrow, hbx⟩ := hrel
        by_cases hmt : m < D + 1
        · have g1 := lt_cast hmt
          obtain ⟨N, hN⟩ : ∃ N, N = k * (D + 1) + m := ⟨_, rfl⟩
          obtain ⟨hwa, hwb⟩ := idx_nums (k := k) (D := D) (m := m) (Nat.le_trans (Nat.le_of_lt HK.out) HRB.out) hD5 (Nat.le_of_lt_succ hmt)
          rw [← hN] at hwb
          obtain ⟨X, hX⟩ : ∃ X, X = LF.getD N ⟨0, 0, 0, ⟨#[]⟩⟩ := ⟨_, rfl⟩
          have HX : Hid (((rowOf LF (D + 1) k).take (m + 1)).map FV.list = ((rowOf LF (D + 1) k).take m).map FV.list ++ [FV.list X]) := by
            rw [Hid, rowOf_snoc _ _ _ _ hmt, List.map_append, hX, hN]
            rfl
          have HLen : Hid ((((rowOf LF (D + 1) k).take m).map FV.list).length + 1 ≤ 7) := by
            rw [Hid, List.length_map, List.length_take, rowOf_length]
            exact Nat.le_trans (Nat.succ_le_succ (Nat.min_le_right _ _)) (by have := hD5; exact Nat.succ_le_succ (Nat.succ_le_succ hD5))
          have HXX := Lib.hid hX
          have HM : Hid (m < D + 1) := hmt
          have HRow := Lib.hid hrow
          have HBX := Lib.hid hbx
          clear hN hmt hm hrow hbx hX
          go_upto_if 45 with fail
          go_cut [11] from 37 to 50 (fun _ wx => wx.heap[wr.heap.size]? = some (.cells #[.int .i64 X.kind, .int .i64 X.num, .int .i64 X.den, .string X.text, .slice none 0 0] 31) ∧ Below wr.heap.size wr wx)
          case first =>
            by_cases hnl : N < L
            · have g2 : (N : Int) < (L : Int) := Int.ofNat_lt.2 hnl
              obtain ⟨x, hx, hLx⟩ := item_at hLF HL.out hnl
              have hmap : (its.map It.list)[N]? = some x.list := by rw [List.getElem?_map, hx]; rfl
              obtain ⟨g, o, c', e, _, hg, hcell⟩ := HR.out.at_ hmap
              injection e with e1 e2 e3
              subst e1
              clear e2 e3
              have pbx : Below w.heap.size w wr := pb0.trans ((HB.out.trans (HBX.out.mono HB.out.size)).mono pb0.size)
              have q0 := (pbx.cell (p := ⟨g, o + N * 3 + 0, none⟩) hg).trans (hcell 0 _ rfl)
              have q1 := (pbx.cell (p := ⟨g, o + N * 3 + 1, none⟩) hg).trans (hcell 1 _ rfl)
              have q2 := (pbx.cell (p := ⟨g, o + N * 3 + 2, none⟩) hg).trans (hcell 2 _ rfl)
              simp only [Nat.add_zero] at q0
              have hgx : g < wr.heap.size := Nat.lt_of_lt_of_le hg pbx.size
              have q0 := (World.cell?_alloc_lt wr (.cells #[.int .i64 0, .int .i64 0, .int .i64 0, .string ⟨#[]⟩, .slice none 0 0] 31) ⟨g, o + N * 3, none⟩ hgx).trans q0
              have q1 := (World.cell?_alloc_lt wr (.cells #[.int .i64 0, .int .i64 0, .int .i64 0, .string ⟨#[]⟩, .slice none 0 0] 31) ⟨g, o + N * 3 + 1, none⟩ hgx).trans q1
              have q2 := (World.cell?_alloc_lt wr (.cells #[.int .i64 0, .int .i64 0, .int .i64 0, .string ⟨#[]⟩, .slice none 0 0] 31) ⟨g, o + N * 3 + 2, none⟩ hgx).trans q2
              have HV : Hid (∀ W, Calls Tryz.prog 31 #[.agg #[.int .i64 x.kind, .int .i64 x.num, .string x.text]] W fun e w' => e = .returned (.agg #[.int .i64 X.kind, .int .i64 X.num, .int .i64 X.den, .string X.text, .slice none 0 0]) ∧ Below W.heap.size W w') := by
                rw [HXX.out, hLx]; exact fun W => val_any x.kind x.num x.text W
              clear hnl hx hmap hcell hLx pbx hgx
              go_wp2_with fail
              refine (HV.out _).mono ?_
              rintro e w6 ⟨rfl, hb6⟩
              obtain ⟨c6, f6, z6, k6⟩ := box_cells (heap_new1 wr _) hb6
              have pb6 := below_one hb6
              clear q0 q1 q2
              go_wp2_with fail
              go_meet
              exact ⟨box5 k6 _ _ _ _ _, set5 pb6 _ _ _ _ _⟩
            · have g2 : ¬ (N : Int) < (L : Int) := fun h => hnl (Int.ofNat_lt.1 h)
              have HG : X = ⟨0, 0, 0, ⟨#[]⟩⟩ := by rw [HXX.out, List.getD_eq_getElem?_getD, List.getElem?_eq_none (by rw [HLL.out]; exact Nat.le_of_not_lt hnl)]; rfl
              clear hnl
              go_wp2_with fail
              go_meet
              exact ⟨by rw [HG]; exact heap_new1 wr _, (Below.refl _ _).alloc (Nat.le_refl _) _⟩
          case rest =>
          obtain ⟨kx, pbx⟩ := hcut
          obtain ⟨cx, fx, zx⟩ := row_facts kx
          clear hwa hwb g1
          go_wp2_with (at_builtin; refine app_off (w0 := Wo) Wo.heap.size rfl (.tmp 51) (.tmp 53) 26 31 _ 5 64 rfl Tryz.underlying26 valInfo rfl (by omega) (by omega) _ _ (FV.list X) rfl rfl rfl (by simp [FV.list, Value.oneCell']) (by simp) (HRow.out.below pbx) (HBX.out.trans (pbx.mono HBX.out.size)) (Nat.le_trans HBX.out.size pbx.size) (len_small HLen.out) ?_; intro v2 w2 hown2 hb2 _ _ _)
          go_roundw
          case rel => exact ⟨m + 1, HM.out, num_small (Nat.lt_of_lt_of_le HM.out (Nat.succ_le_succ hD5)) (by decide), by rw [HX.out]; exact hown2, hb2⟩
          case measure => exact meas_small HM.out hD5
        · obtain rfl : m = D + 1 := Nat.le_antisymm hm (Nat.le_of_not_lt hmt)
          have g1 : ¬ ((D + 1 : Nat) : Int) < 1 + (D : Int) := by omega
          have hfull : Own wr Wo.heap.size 31 5 u8 ((rowOf LF (D + 1) k).map FV.list) := by
            have := hrow
            rwa [List.take_of_length_le (by rw [rowOf_length]; exact Nat.le_refl _)] at this
          obtain ⟨A7, c7, hs7, _⟩ := hfull.len
          rw [List.length_map, rowOf_length] at hs7
          subst hs7
          obtain ⟨rs, hgo, hgl, hgi⟩ := HO.out
          have HGO := Lib.hid (hgo.below hbx)
          have HGI := Lib.hid hgi
          have HFU := Lib.hid hfull
          have HOF := Lib.hid (off_new (w' := wr) hgo HB.out.size)
          have HKR : Hid (k < rowsN LF.length (D + 1)) := by rw [Hid, HLL.out, ← HRR.out]; exact HK.out
          have hrl : rs.length = k := by rw [hgl, List.length_take, tblOf_length]; have := HKR.out; omega
          have HRL := Lib.hid hrl
          have HGL := Lib.hid hgl
          have HBX := Lib.hid hbx
          clear hgo hgi hgl hrl hfull hrow hm hmt hbx
          go_wp2_with (at_builtin; refine app_off (w0 := W0) W0.heap.size rfl (.tmp 55) (.tmp 57) 29 26 _ 1 24 rfl Tryz.underlying29 valRowInfo rfl (by omega) (by omega) _ _ [.slice A7 (D + 1) c7] rfl rfl rfl (by simp [Value.oneCell']) (by simp) HGO.out (HB.out.trans (HBX.out.mono HB.out.size)) (Nat.le_trans HB.out.size HBX.out.size) (rows_small HRL.out HK.out HRB.out) ?_; intro v2 w2 hown2 hb2 _ hg2 hat2)
          go_roundw
          case rel =>
            refine ⟨k + 1, HK.out, num_small HK.out (Nat.le_trans HRB.out (by decide)), ?_, hb2⟩
            rw [tblOf_snoc LF (D + 1) k HKR.out]
            exact OwnR.snoc (w := wr) hown2 HGL.out (fun i row r hrow hr => ((HGI.out i row r hrow hr).keep fun b h => HBX.out.block b h.2.1).mono fun b h => ⟨h.1, Nat.lt_of_lt_of_le h.2.1 HBX.out.size, h.2.2⟩) (HFU.out.rowS.mono HOF.out) hg2 hat2
          case measure => exact meas_rows HK.out (Nat.le_trans HRB.out (by decide))
    · obtain rfl : k = R := Nat.le_antisymm hk (Nat.le_of_not_lt hlt)
      have h1 : ¬ (k : Int) < (k : Int) := Int.lt_irrefl _
      have hfull : OwnR Wo W0.heap.size 26 5 FV.list u6 (tblOf LF (D + 1)) := by
        have := hown
        rwa [List.take_of_length_le (by rw [tblOf_length, HLL.out, ← HRR.out]; exact Nat.le_refl _)] at this
      obtain ⟨A7, c7, hs7, _⟩ := hfull.rrow.len
      subst hs7
      have HFU := Lib.hid hfull
      have HLF := Lib.hid hLF
      have HB := Lib.hid hb
      obtain ⟨c0, f0, z0, k0r⟩ := box_cells k0 hb
      have pbr := pb0.trans (hb.mono pb0.size)
      have PBR := Lib.hid pbr
      clear hfull hown hb pbr hk hlt hLF hLl
      go_wp2_with (go_at_call 25; refine (table_any _ _ _ _).mono ?_; rintro e w2 ⟨rfl, hb2⟩; obtain ⟨c2, f2, z2, k2⟩ := box_cells k0r hb2; clear c0 f0)
      refine bodyPost_ret (v := .agg #[.int .i64 5, .int .i64 0, .int .i64 0, .string ⟨#[]⟩, .slice A7 (tblOf LF (D + 1)).length c7]) (by simp [results, Tryz.results14, go_sem, c2]) rfl ⟨_, rfl, ?_, ?_⟩
      · have e : tblI its cols = tblOf LF (D + 1) := by unfold tblI; rw [hC, HLF.out]
        rw [e]
        have hr := (HFU.out.below hb2).rrow
        refine RRowS.t (hr.keep fun b h => ?_) fun b h => by simpa [World.setCell] using h.2
        have hw0 : w.heap.size < W0.heap.size := heap_lt k0
        have := h.1
        (repeat rw [heap_set_far (by omega)])
      · have pb2 := PBR.out.trans (hb2.mono PBR.out.size)
        clear c2 f2
        (repeat refine below_set0 ?_ _ _)
        exact pb2

end Go.Proofs.YtkglbccdiofnkaaGreatDoor
