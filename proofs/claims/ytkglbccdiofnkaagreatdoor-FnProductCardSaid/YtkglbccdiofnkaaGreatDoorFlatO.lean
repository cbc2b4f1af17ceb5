/-
'Flat' of arguments: what it hands back is new.
-/
import Derived.Test.YtkglbccdiofnkaaGreatDoorFlat
namespace Go.Proofs.YtkglbccdiofnkaaGreatDoor
open Go.RowKit

set_option maxRecDepth 100000 in
set_option maxHeartbeats 1000000 in
theorem flat_own (al : List Arg) (v : Value) (w : World) (hr : ARow w w.heap.size v al) (hk : ∀ a ∈ al, a.fits) (hn : al.length ≤ 1000000) (hn2 : (flats al).length ≤ 1000000) :
    Calls Tryz.prog 40 #[v] w fun e w' => ∃ v', e = .returned v' ∧ Own w' w.heap.size 31 5 v' ((flats al).map FV.list) ∧ Below w.heap.size w w' := by
  obtain ⟨cs, hcs, hlen, hcell0⟩ := hr
  obtain ⟨A, c, rfl, hc1, hc2, hc3⟩ := hcs
  rw [hlen] at hc1 hc3 ⊢
  go_enter Tryz.func40, Tryz.ntmps40
  go_wp2
  go_loopw [3, 4, 5] (fun s i u5 wr => ∃ k : Nat, k ≤ al.length ∧ i = .int .i64 k ∧ Own wr w.heap.size 31 5 s ((flats (al.take k)).map FV.list) ∧ Below w.heap.size w wr) (fun _ i _ _ => al.length - (intOf i).toNat)
  case atStart => exact ⟨0, Nat.zero_le _, rfl, Own.nil_ _ _ _ _, Below.refl _ _⟩
  case round =>
    obtain ⟨k, hk1, rfl, hown, hb⟩ := hrel
    by_cases hlt : k < al.length
    · obtain ⟨g, o, rfl, hg, hcell⟩ := hc3 (by omega)
      obtain ⟨a, hak⟩ : ∃ a, al[k]? = some a := ⟨_, List.getElem?_eq_getElem hlt⟩
      obtain ⟨x, hxk⟩ : ∃ x, cs[k]? = some x := ⟨_, List.getElem?_eq_getElem (by omega)⟩
      have hac := hcell0 k x a hxk hak
      have hfit := hk a (List.mem_of_getElem? hak)
      have q : ∀ j u, x[j]? = some u → wr.cell? ⟨g, o + k * 5 + j, none⟩ = some u := fun j u hu => (hb.cell (p := ⟨g, o + k * 5 + j, none⟩) hg).trans (hcell k _ hxk j u hu)
      have hft := flats_take al k a hak
      have hfl := flats_len al (k + 1)
      rw [hft, List.length_append] at hfl
      have HL : Hid (((flats (al.take k)).map FV.list).length = (flats (al.take k)).length) := List.length_map ..
      have HX : Hid ((flats (al.take (k + 1))).map FV.list = (flats (al.take k)).map FV.list ++ a.flat.map FV.list) := by rw [Hid, hft, List.map_append]
      have hu26 := Tryz.underlying31
      clear hxk hak hcell hcell0 hc3 hk hc2 hft
      cases a with
      | one f =>
        have hkx : (f.kind != 5) = true := by simpa [Arg.fits] using hfit
        have hx : x = FV.list f := hac
        subst hx
        have q0 := q 0 _ rfl
        have q1 := q 1 _ rfl
        have q2 := q 2 _ rfl
        have q3 := q 3 _ rfl
        have q4 := q 4 _ rfl
        simp only [Nat.add_zero] at q0
        simp only [Arg.flat, List.length_singleton] at hfl
        clear q hfit hac
        go_wp2_with (at_builtin; refine app_one (w0 := w) w.heap.size rfl (.tmp 18) (.tmp 23) 26 31 _ 5 64 rfl Tryz.underlying26 valInfo rfl (by omega) (by omega) _ _ (FV.list f) rfl rfl rfl (by simp [FV.list, Value.oneCell']) (by simp) hown hb hb.size (by rw [HL.out]; omega) ?_; intro v1 w1 hown1 hb1 _)
        go_roundw
        case rel => exact ⟨k + 1, by omega, by go_num, by rw [HX.out]; exact hown1, hb1⟩
        case measure => simp [intOf]; omega
      | tbl rows =>
        obtain ⟨rv, rfl, hT⟩ := hac
        obtain ⟨rs, ⟨A2, c2, rfl, hd1, hd2, hd3⟩, hrl, hrow⟩ := hT
        rw [List.length_map] at hd1 hd3
        have q0 := q 0 _ rfl
        have q4w : Hid (w.cell? ⟨g, o + k * 5 + 4, none⟩ = some (.slice A2 (rs.map fun r => [r]).length c2)) := (hb.cell (p := ⟨g, o + k * 5 + 4, none⟩) hg).symm.trans (q 4 _ rfl)
        rw [List.length_map] at q4w
        have HO : Hid (Own wr w.heap.size 31 5 u3 ((flats (al.take k)).map FV.list)) := hown
        have hrl6 := hfit.1
        have HFIT := Lib.hid hfit.2
        have HROW := Lib.hid hrow
        simp only [Nat.add_zero] at q0
        simp only [Arg.flat] at hfl
        rw [hrl] at hd1 hd3 q4w
        have hd3' := Lib.hid hd3
        have HK : Hid (k < al.length) := hlt
        obtain ⟨wo, rfl⟩ : ∃ wo : World, wo = wr := ⟨_, rfl⟩
        clear q hown hfit hrow hd2 hd3
        go_wp2_with fail
        go_loopw [3, 5] (fun s i wr => ∃ j : Nat, j ≤ rows.length ∧ i = .int .i64 j ∧ Own wr w.heap.size 31 5 s ((flats (al.take k) ++ (rows.take j).flatten).map FV.list) ∧ Below w.heap.size w wr) (fun _ i _ => rows.length - (intOf i).toNat)
        case atStart => exact ⟨0, Nat.zero_le _, rfl, by simpa using HO.out, hb⟩
        case round =>
          obtain ⟨j, hj1, rfl, hown, hb'⟩ := hrel
          have q4 := (hb'.cell (p := ⟨g, o + k * 5 + 4, none⟩) hg).trans q4w.out
          by_cases hltj : j < rows.length
          · obtain ⟨g2, o2, rfl, hg2, hcell2⟩ := hd3'.out (by omega)
            obtain ⟨row, hrj⟩ : ∃ row, rows[j]? = some row := ⟨_, List.getElem?_eq_getElem hltj⟩
            obtain ⟨r, hrr⟩ : ∃ r, rs[j]? = some r := ⟨_, List.getElem?_eq_getElem (by omega)⟩
            have HR : Row wr wr.heap.size 5 r (row.map FV.list) := ((HROW.out j r row hrr hrj).below hb').more hb'.size
            have hr0 := (hb'.cell (p := ⟨g2, o2 + j * 1 + 0, none⟩) hg2).trans (hcell2 j [r] (by rw [List.getElem?_map, hrr]; rfl) 0 r rfl)
            simp only [Nat.add_zero, Nat.mul_one] at hr0
            have hkr : ∀ x ∈ row, x.kind ≠ 5 := HFIT.out row (List.mem_of_getElem? hrj)
            have hft := flatten_take rows j row hrj
            have hfl2 := flatten_take_len rows (j + 1)
            rw [hft, List.length_append] at hfl2
            have HL2 : Hid (((flats (al.take k) ++ (rows.take j).flatten).map FV.list).length = (flats (al.take k)).length + (rows.take j).flatten.length) := by rw [Hid, List.length_map, List.length_append]
            have HL3 : Hid ((row.map FV.list).length = row.length) := List.length_map ..
            have HX2 : Hid ((flats (al.take k) ++ (rows.take (j + 1)).flatten).map FV.list = (flats (al.take k) ++ (rows.take j).flatten).map FV.list ++ row.map FV.list) := by rw [Hid, hft, ← List.append_assoc, List.map_append]
            have HJ : Hid (j < rows.length) := hltj
            clear hft hrj hrr hcell2
            go_wp2_with (first
              | (go_at_call 40; refine (flat_flat row r _ HR hkr (by omega)).mono ?_; rintro e w2 ⟨v2, rfl, hR2, hb2⟩)
              | (at_builtin; refine app_row (w0 := w) w.heap.size rfl (.tmp 35) (.tmp 44) 26 31 _ 5 64 rfl Tryz.underlying26 valInfo rfl (by omega) (by omega) _ v2 _ (row.map FV.list) _ rfl rfl hR2 (by simp [FV.list, Value.oneCell']) (hown.below hb2) (hb'.trans (hb2.mono hb'.size)) (Nat.le_trans hb'.size hb2.size) (by rw [HL2.out, HL3.out]; omega) ?_; intro v3 w3 hown3 hb3 _))
            have hltj := HJ.out
            go_roundw
            case rel => exact ⟨j + 1, by omega, by go_num, by rw [HX2.out]; exact hown3, hb3⟩
            case measure => simp [intOf]; omega
          · obtain rfl : j = rows.length := by omega
            rw [List.take_length] at hown
            go_wp2
            have hlt := HK.out
            go_roundw
            case rel => exact ⟨k + 1, by omega, by go_num, by rw [HX.out]; simpa [Arg.flat] using hown, hb'⟩
            case measure => simp [intOf]; omega
    · obtain rfl : k = al.length := by omega
      rw [List.take_length] at hown
      go_wp2
      go_ret
      exact ⟨_, rfl, hown, hb⟩

end Go.Proofs.YtkglbccdiofnkaaGreatDoor
