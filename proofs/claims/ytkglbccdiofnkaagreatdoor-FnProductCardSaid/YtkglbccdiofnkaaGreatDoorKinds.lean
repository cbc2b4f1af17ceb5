/-
'kinds' of the reference: of a table, of a single value.
-/
import Derived.Test.YtkglbccdiofnkaaGreatDoorTabG
import Derived.Test.YtkglbccdiofnkaaGreatDoorStep
import Derived.Deep.QuietTactic
import Derived.BigQuiet
import Derived.Outline
namespace Go.Proofs.YtkglbccdiofnkaaGreatDoor
open Go.RowKit

def inK (ks : List Int) (k : Int) : Bool := ks.contains k
theorem inK_snoc (ks : List Int) (j : Nat) (y k : Int) (h : ks[j]? = some y) : inK (ks.take (j + 1)) k = (inK (ks.take j) k || (k == y)) := by
  unfold inK
  rw [List.take_add_one, h]
  by_cases e : k = y <;> simp [e]
/-- Whether all values of a table are of some kinds. -/
def allK (ks : List Int) (vs : List FV) : Bool := vs.all fun v => inK ks v.kind
theorem allK_snoc (ks : List Int) (vs : List FV) (k : Nat) (x : FV) (h : vs[k]? = some x) : allK ks (vs.take (k + 1)) = (allK ks (vs.take k) && inK ks x.kind) := by
  unfold allK
  rw [List.take_add_one, h]
  simp
theorem allK_miss (ks : List Int) (vs : List FV) (k : Nat) (x : FV) (h : vs[k]? = some x) (hx : inK ks x.kind = false) : allK ks vs = false := by
  unfold allK
  rw [List.all_eq_false]
  exact ⟨x, List.mem_of_getElem? h, by simp [hx]⟩

set_option maxRecDepth 100000 in
theorem kinds_one (k n d : Int) (t : ByteArray) (A A2 : Option Addr) (l c l2 c2 : Nat) (w : World) (hk : k ≠ 5) :
    Calls Tryz.prog 112 #[.agg #[.int .i64 k, .int .i64 n, .int .i64 d, .string t, .slice A l c], .slice A2 l2 c2] w fun e w' => e = .returned (.bool false) ∧ Below w.heap.size w w' := by
  have h5 : (k != 5) = true := by simpa using hk
  clear hk
  go_enter Tryz.func112, Tryz.ntmps112
  go_wp2
  go_ret
  exact ⟨rfl, (Below.refl _ _).alloc (Nat.le_refl _) _⟩

set_option maxRecDepth 100000 in
set_option maxHeartbeats 2000000 in
theorem kinds_tbl (rows : List (List FV)) (ks : List Int) (rv kv : Value) (w : World) (hT : TRow w w.heap.size rv rows) (hK : Row w w.heap.size 1 kv (ks.map fun k => [.int .i64 k]))
    (hfit : (Arg.tbl rows).fits) (hn : rows.flatten.length ≤ 1000000) (hkl : ks.length ≤ 1000) :
    Calls Tryz.prog 112 #[.agg #[.int .i64 5, .int .i64 0, .int .i64 0, .string ⟨#[]⟩, rv], kv] w fun e w' => e = .returned (.bool (allK ks rows.flatten)) ∧ Below w.heap.size w w' := by
  have hu26 := Tryz.underlying31
  obtain ⟨A, c, rfl⟩ : ∃ A c, rv = .slice A rows.length c := by
    obtain ⟨A, c, h, _⟩ := hT.len
    exact ⟨A, c, h⟩
  obtain ⟨A2, c2, rfl⟩ : ∃ A2 c2, kv = .slice A2 ks.length c2 := by
    obtain ⟨A, c, h, _⟩ := hK
    exact ⟨A, c, by rw [List.length_map] at h; exact h⟩
  have HT := Lib.hid hT
  have HK := Lib.hid hK
  have HF := Lib.hid hfit
  have HN := Lib.hid hn
  obtain ⟨V, hV⟩ : ∃ V, V = rows.flatten := ⟨_, rfl⟩
  have HV := Lib.hid hV
  rw [← hV] at hn ⊢
  clear hT hK hfit hV
  have HFl : Hid (∀ W v, Below w.heap.size w W → Row W W.heap.size 5 v [[.int .i64 5, .int .i64 0, .int .i64 0, .string ⟨#[]⟩, .slice A rows.length c]] →
      Calls Tryz.prog 40 #[v] W fun e w' => ∃ v', e = .returned v' ∧ Row w' w'.heap.size 5 v' (V.map FV.list) ∧ Below W.heap.size W w') := by
    intro W v hb hr
    have := flat_args [.tbl rows] v W (ARow.one_tbl hr ((HT.out.below hb).more hb.size)) (by simpa using HF.out) (by simp) (by rw [flats_tbl]; exact HN.out)
    rw [flats_tbl, ← HV.out] at this
    exact this
  go_enter Tryz.func112, Tryz.ntmps112
  go_wp2_with (go_at_call 40; refine (HFl.out _ _ (((Below.refl _ _).alloc (Nat.le_refl _) _).alloc (by simp) _) (Row.lit1 _ _ [_, _, _, _, _] _ (by simp))).mono ?_; rintro e w2 ⟨v2, rfl, hR2, hb2⟩)
  have hb3 : Below w.heap.size w w2 := below_two hb2
  clear hb2 HFl
  obtain ⟨A3, c3, rfl, hc1, hc2, hc3⟩ := hR2
  rw [List.length_map] at hc1 hc3 ⊢
  have HC := Lib.hid hc3
  have HKW : Hid (Row w2 w2.heap.size 1 (.slice A2 ks.length c2) (ks.map fun k => [.int .i64 k])) := (HK.out.below hb3).more hb3.size
  clear hc2 hc3
  go_loopw [6, 7, 8] (fun i _ _ wr => ∃ m : Nat, m ≤ V.length ∧ i = .int .i64 m ∧ allK ks (V.take m) = true ∧ Below w2.heap.size w2 wr) (fun i _ _ _ => V.length - (intOf i).toNat)
  case atStart => exact ⟨0, Nat.zero_le _, rfl, rfl, Below.refl _ _⟩
  case round =>
    obtain ⟨m, hm, rfl, hall, hb⟩ := hrel
    have HA := Lib.hid hall
    have HB := Lib.hid hb
    clear hall hb
    obtain ⟨wo, rfl⟩ : ∃ wo : World, wo = wr := ⟨_, rfl⟩
    by_cases hlt : m < V.length
    · obtain ⟨g, o, rfl, hg, hcell⟩ := HC.out (by omega)
      obtain ⟨x, hxk⟩ : ∃ x, V[m]? = some x := ⟨_, List.getElem?_eq_getElem hlt⟩
      have q0w := hcell m (FV.list x) (by rw [List.getElem?_map, hxk]; rfl) 0 _ rfl
      simp only [Nat.add_zero] at q0w
      have Q0W := Lib.hid q0w
      have HX := Lib.hid hxk
      have HL : Hid (m < V.length) := hlt
      clear hcell hxk q0w
      go_wp2_with fail
      go_loopw [7, 8] (fun b k wx => ∃ j : Nat, j ≤ ks.length ∧ k = .int .i64 j ∧ b = .bool (inK (ks.take j) x.kind) ∧ Below w2.heap.size w2 wx) (fun _ k _ => ks.length - (intOf k).toNat)
      case atStart => exact ⟨0, Nat.zero_le _, rfl, rfl, HB.out⟩
      case round =>
        obtain ⟨j, hj, rfl, rfl, hb⟩ := hrel
        have HB2 := Lib.hid hb
        have q0 := (hb.cell (p := ⟨g, o + m * 5, none⟩) hg).trans Q0W.out
        clear hb
        by_cases hjt : j < ks.length
        · obtain ⟨y, hyk⟩ : ∃ y, ks[j]? = some y := ⟨_, List.getElem?_eq_getElem hjt⟩
          obtain ⟨g2, o2, c4, e2, _, hg2, hcell2⟩ := HKW.out.at_ (show (ks.map fun k => [Value.int .i64 k])[j]? = some [.int .i64 y] by rw [List.getElem?_map, hyk]; rfl)
          injection e2 with e2 e3 e4
          subst e2
          clear e3 e4
          have r0 := (HB2.out.cell (p := ⟨g2, o2 + j * 1 + 0, none⟩) hg2).trans (hcell2 0 _ rfl)
          simp only [Nat.add_zero, Nat.mul_one] at r0
          have HS := Lib.hid (inK_snoc ks j y x.kind hyk)
          have HJ : Hid (j < ks.length) := hjt
          have i1 : (0 : Int) ≤ (m : Int) := Int.natCast_nonneg _
          have i2 : (m : Int) < (V.length : Int) := Int.ofNat_lt.2 hlt
          have i3 : (0 : Int) ≤ (j : Int) := Int.natCast_nonneg _
          have i4 : (j : Int) < (ks.length : Int) := Int.ofNat_lt.2 hjt
          clear hcell2 hyk
          cases hb : inK (ks.take j) x.kind with
          | true =>
            have HB := Lib.hid hb
            clear hb
            go_wp2
            go_quiet (fail)
            go_wp2
            have hjt := HJ.out
            go_roundw
            case rel => exact ⟨j + 1, by omega, by go_num, by rw [HS.out, HB.out]; rfl, Below.drewN HB2.out _⟩
            case measure => simp [intOf]; omega
          | false =>
            have HB := Lib.hid hb
            clear hb
            obtain ⟨t, ht⟩ : ∃ t, (x.kind == y) = t := ⟨_, rfl⟩
            have HTT := Lib.hid ht
            go_wp2
            go_quiet (fail)
            go_wp2
            have hjt := HJ.out
            go_roundw
            case rel => exact ⟨j + 1, by omega, by go_num, by rw [HS.out, HB.out, HTT.out]; rfl, Below.drewN HB2.out _⟩
            case measure => simp [intOf]; omega
        · obtain rfl : j = ks.length := by omega
          rw [List.take_length]
          cases hb : inK ks x.kind with
          | true =>
            have HB := Lib.hid hb
            clear hb
            go_wp2
            have hlt := HL.out
            go_roundw
            case rel => exact ⟨m + 1, by omega, by go_num, by rw [allK_snoc ks V m x HX.out, HA.out, HB.out]; rfl, HB2.out⟩
            case measure => simp [intOf]; omega
          | false =>
            have HR := Lib.hid (allK_miss ks V m x HX.out hb)
            clear hb
            go_wp2
            go_ret
            exact ⟨by rw [HR.out]; rfl, hb3.trans (HB2.out.mono hb3.size)⟩
    · obtain rfl : m = V.length := by omega
      have HR : Hid (allK ks V = true) := by have := HA.out; rwa [List.take_length] at this
      go_wp2
      go_ret
      exact ⟨by rw [HR.out]; rfl, hb3.trans (HB.out.mono hb3.size)⟩

end Go.Proofs.YtkglbccdiofnkaaGreatDoor
