/-
Contracts of the smallest functions of the reference: the values that it makes.
-/
import Derived.Test.YtkglbccdiofnkaaGreatDoorProg
import Derived.Test.YtkglbccdiofnkaaGreatDoorFl
import Derived.WalkKit
import Derived.WalkSpells
import Derived.WalkLawsBesides
import Derived.Outline
import Derived.IntWalk
import Derived.Lib.Hide
namespace Go.Proofs.YtkglbccdiofnkaaGreatDoor
open Go.RowKit

/-- A value of the reference that is no matrix. -/
structure FV where
  kind : Int
  num : Int
  den : Int
  text : ByteArray

abbrev FV.cells (v : FV) : Array Value := #[.int .i64 v.kind, .int .i64 v.num, .int .i64 v.den, .string v.text, .slice none 0 0]

/-- A block of five cells that was laid ahead of a call reads as it did behind it. -/
theorem own5 {w w1 : World} {c0 c1 c2 c3 c4 : Value} {T : TypeId} (hb : Below (w.alloc (.cells #[c0, c1, c2, c3, c4] T)).heap.size (w.alloc (.cells #[c0, c1, c2, c3, c4] T)) w1) :
    w1.cell? ⟨w.heap.size, 0, none⟩ = some c0 ∧ w1.cell? ⟨w.heap.size, 1, none⟩ = some c1 ∧ w1.cell? ⟨w.heap.size, 2, none⟩ = some c2 ∧ w1.cell? ⟨w.heap.size, 3, none⟩ = some c3 ∧ w1.cell? ⟨w.heap.size, 4, none⟩ = some c4 ∧
      (∀ j, w1.frozen? ⟨w.heap.size, j, none⟩ = false) ∧ w.heap.size < w1.heap.size ∧ Below w.heap.size w w1 := by
  have hlt : w.heap.size < (w.alloc (.cells #[c0, c1, c2, c3, c4] T)).heap.size := by simp
  have hc : ∀ j, w1.cell? ⟨w.heap.size, j, none⟩ = #[c0, c1, c2, c3, c4][j]? := fun j => by
    rw [hb.cell (p := ⟨w.heap.size, j, none⟩) hlt]
    exact cell_of_row _ _ _ _ _ _ (heap_alloc_new w _)
  have hf : ∀ j, w1.frozen? ⟨w.heap.size, j, none⟩ = false := fun j => by
    rw [hb.frozen (p := ⟨w.heap.size, j, none⟩) hlt]
    have h := heap_alloc_new w (.cells #[c0, c1, c2, c3, c4] T)
    unfold World.frozen?
    simp only [h]
    simp
  exact ⟨hc 0, hc 1, hc 2, hc 3, hc 4, hf, Nat.lt_of_lt_of_le hlt hb.size, ((Below.refl _ _).alloc (Nat.le_refl _) _).trans (hb.mono (Nat.le_of_lt hlt))⟩

theorem set5 {w w1 : World} (h : Below w.heap.size w w1) (v0 v1 v2 v3 v4 : Value) :
    Below w.heap.size w (((((w1.setCell ⟨w.heap.size, 0, none⟩ v0).setCell ⟨w.heap.size, 1, none⟩ v1).setCell ⟨w.heap.size, 2, none⟩ v2).setCell ⟨w.heap.size, 3, none⟩ v3).setCell ⟨w.heap.size, 4, none⟩ v4) :=
  ((((h.setCell (p := ⟨w.heap.size, 0, none⟩) (Nat.le_refl _) _).setCell (p := ⟨w.heap.size, 1, none⟩) (Nat.le_refl _) _).setCell (p := ⟨w.heap.size, 2, none⟩) (Nat.le_refl _) _).setCell (p := ⟨w.heap.size, 3, none⟩) (Nat.le_refl _) _).setCell (p := ⟨w.heap.size, 4, none⟩) (Nat.le_refl _) _

theorem doubt_any (w : World) :
    Calls Tryz.prog 34 #[] w fun e w' => e = .returned (.agg #[.int .i64 6, .int .i64 0, .int .i64 0, .string ⟨#[]⟩, .slice none 0 0]) ∧ Below w.heap.size w w' := by
  go_enter Tryz.func34, Tryz.ntmps34
  go_wp2
  refine bodyPost_ret (v := .agg #[.int .i64 6, .int .i64 0, .int .i64 0, .string ⟨#[]⟩, .slice none 0 0]) (by simp [results, Tryz.results34, go_sem]) rfl ⟨rfl, ?_⟩
  exact (Below.refl _ _).alloc (Nat.le_refl _) _

theorem int_small (n : Int) (w : World) (h1 : n ≤ 99999999999) (h2 : -99999999999 ≤ n) :
    Calls Tryz.prog 15 #[.int .i64 n] w fun e w' => e = .returned (.agg #[.int .i64 1, .int .i64 n, .int .i64 1, .string ⟨#[]⟩, .slice none 0 0]) ∧ Below w.heap.size w w' := by
  go_enter Tryz.func15, Tryz.ntmps15
  go_wp2
  refine bodyPost_ret (v := .agg #[.int .i64 1, .int .i64 n, .int .i64 1, .string ⟨#[]⟩, .slice none 0 0]) (by simp [results, Tryz.results15, go_sem]) rfl ⟨rfl, ?_⟩
  exact (Below.refl _ _).alloc (Nat.le_refl _) _

/-- A number of m sixteenths: its denominator, its numerator. -/
def nd (m : Int) : Int := if m % 16 = 0 then 1 else if m % 8 = 0 then 2 else if m % 4 = 0 then 4 else if m % 2 = 0 then 8 else 16
def nn (m : Int) : Int := m * nd m / 16

/-- The value of m sixteenths; Unsure, if it is too great. -/
def fr (m : Int) : FV := if nn m ≤ 99999999999 ∧ -99999999999 ≤ nn m then ⟨1, nn m, nd m, ⟨#[]⟩⟩ else ⟨6, 0, 0, ⟨#[]⟩⟩
theorem fr_in {m : Int} (h : nn m ≤ 99999999999 ∧ -99999999999 ≤ nn m) : fr m = ⟨1, nn m, nd m, ⟨#[]⟩⟩ := by unfold fr; rw [if_pos h]
theorem fr_out {m : Int} (h : ¬ (nn m ≤ 99999999999 ∧ -99999999999 ≤ nn m)) : fr m = ⟨6, 0, 0, ⟨#[]⟩⟩ := by unfold fr; rw [if_neg h]

theorem nd_cases (m : Int) : nd m = 1 ∨ nd m = 2 ∨ nd m = 4 ∨ nd m = 8 ∨ nd m = 16 := by
  unfold nd
  (repeat' split) <;> simp
theorem nn_eq (m : Int) : nn m * 16 = m * nd m := by
  unfold nn nd
  (repeat' split) <;> omega
theorem nd_end (m a b : Int) (h : a * 16 = m * b) (hb : b = 16 ∨ b = 8 ∨ b = 4 ∨ b = 2 ∨ b = 1) (he : b = 1 ∨ a % 2 ≠ 0) : b = nd m ∧ a = nn m := by
  have h1 : b = nd m := by
    unfold nd
    rcases hb with rfl | rfl | rfl | rfl | rfl <;> (repeat' split) <;> omega
  have h2 := nn_eq m
  rw [← h1] at h2
  exact ⟨h1, by omega⟩

theorem bd_of_mul (x m d C : Int) (hd : 0 < d) (h : x = m * d) (h1 : x ≤ C) (h2 : -C ≤ x) : m ≤ C ∧ -C ≤ m := by
  constructor
  · rcases Int.lt_or_le C m with h' | h'
    · have hc : 0 ≤ C := by omega
      have : m * 1 ≤ m * d := Int.mul_le_mul_of_nonneg_left (by omega) (by omega)
      omega
    · exact h'
  · rcases Int.lt_or_le m (-C) with h' | h'
    · have hc : 0 ≤ C := by omega
      have : m * d ≤ m * 1 := Int.mul_le_mul_of_nonpos_left (by omega) (by omega)
      omega
    · exact h'

theorem tmod_of (a b : Int) : a.tmod b = if 0 ≤ a then a % b else -((-a) % b) := by
  split
  · rename_i h; exact Int.tmod_eq_emod_of_nonneg h
  · rename_i h
    have : a = -(-a) := by omega
    rw [this, Int.neg_tmod, Int.tmod_eq_emod_of_nonneg (by omega)]
    simp
theorem tdiv_of (a b : Int) : a.tdiv b = if 0 ≤ a then a / b else -((-a) / b) := by
  split
  · rename_i h; exact Int.tdiv_eq_ediv_of_nonneg h
  · rename_i h
    have : a = -(-a) := by omega
    rw [this, Int.neg_tdiv, Int.tdiv_eq_ediv_of_nonneg (by omega)]
    simp
theorem tmod2_even (a : Int) (h : a % 2 = 0) : (a.tmod 2 == 0) = true := by rw [tmod_of]; simp; split <;> omega
theorem tmod2_odd (a : Int) (h : a % 2 ≠ 0) : (a.tmod 2 == 0) = false := by rw [tmod_of]; simp; split <;> omega
theorem tdiv2_even (a : Int) (h : a % 2 = 0) : a.tdiv 2 = a / 2 := by rw [tdiv_of]; split <;> omega

set_option maxHeartbeats 1600000 in
theorem frac_any (n d m : Int) (w : World) (hd0 : 0 < d) (hd : d ≤ 1048576) (hn1 : n ≤ 1125899906842624) (hn2 : -1125899906842624 ≤ n) (hm : n * 16 = m * d) :
    Calls Tryz.prog 46 #[.int .i64 n, .int .i64 d] w fun e w' => e = .returned (.agg #[.int .i64 (fr m).kind, .int .i64 (fr m).num, .int .i64 (fr m).den, .string (fr m).text, .slice none 0 0]) ∧ Below w.heap.size w w' := by
  have hz : ((n * 16).tmod d != 0) = false := by rw [hm, Int.mul_tmod_left]; rfl
  have hq : (n * 16).tdiv d = m := by rw [hm]; exact Int.mul_tdiv_cancel _ (by omega)
  obtain ⟨hm1, hm2⟩ := bd_of_mul (n * 16) m d 18014398509481984 hd0 hm (by omega) (by omega)
  have hw : wrap64 m = m := by unfold wrap64; omega
  have H := Lib.hid hm; clear hm
  have t1 : (d == 0) = false := by simp; omega
  have t2 : ¬ 1048576 < d := by omega
  have t3 : ¬ 1125899906842624 < n := by omega
  have t4 : ¬ n < -1125899906842624 := by omega
  go_enter Tryz.func46, Tryz.ntmps46
  go_wp2
  go_loop [0, 1] (fun x y => ∃ a b : Int, x = .int .i64 a ∧ y = .int .i64 b ∧ a * 16 = m * b ∧ (b = 16 ∨ b = 8 ∨ b = 4 ∨ b = 2 ∨ b = 1)) (fun _ y => (intOf y).toNat)
  case atStart => exact ⟨m, 16, rfl, rfl, rfl, .inl rfl⟩
  case round =>
    obtain ⟨a, b, rfl, rfl, hab, hb⟩ := hrel
    have ha1 : a ≤ 18014398509481984 := by rcases hb with h | h | h | h | h <;> subst h <;> omega
    have ha2 : -18014398509481984 ≤ a := by rcases hb with h | h | h | h | h <;> subst h <;> omega
    by_cases hc : b ≠ 1 ∧ a % 2 = 0
    · have HB : Hid ((b = 16 ∨ b = 8 ∨ b = 4 ∨ b = 2 ∨ b = 1) ∧ a * 16 = m * b ∧ a % 2 = 0) := ⟨hb, hab, hc.2⟩
      have u1 : 1 < b := by omega
      have u2 := tmod2_even a hc.2
      have u3 := tdiv2_even a hc.2
      have u4 : b ≤ 16 := by omega
      clear hb hab hc
      go_wp2
      obtain ⟨hb, hab, hc⟩ := HB.out
      go_round
      case rel => exact ⟨a / 2, b / 2, by go_num, by go_num, by rcases hb with h | h | h | h | h <;> subst h <;> omega, by omega⟩
      case measure => simp [intOf]; omega
    · have HB : b = nd m ∧ a = nn m := nd_end m a b hab hb (by omega)
      have u5 : 0 < b := by omega
      clear hab
      obtain ⟨rfl, rfl⟩ := HB
      have HC : Hid (nd m = 1 → ¬ 1 < nd m) := fun h => by omega
      have HC2 : Hid (nd m ≠ 1 → ((nn m).tmod 2 == 0) = false ∧ (nn m % 2 == 0) = false ∧ 1 < nd m) := fun h => ⟨tmod2_odd _ (by omega), by simp; omega, by omega⟩
      clear hc hb
      by_cases h1 : nd m = 1
      · have u1 := HC.out h1
        clear h1
        by_cases h2 : nn m ≤ 99999999999
        · by_cases h3 : -99999999999 ≤ nn m
          · go_wp2
            refine bodyPost_ret (v := .agg #[.int .i64 1, .int .i64 (nn m), .int .i64 (nd m), .string ⟨#[]⟩, .slice none 0 0]) (by simp [results, Tryz.results46, go_sem]) rfl ⟨by rw [fr_in ⟨h2, h3⟩], ?_⟩
            exact (Below.refl _ _).alloc (Nat.le_refl _) _
          · go_wp2_with (go_at_call 34; refine (doubt_any _).mono ?_; rintro e w1 ⟨rfl, hb1⟩; obtain ⟨p0, p1, p2, p3, p4, pf, pz, pb⟩ := own5 hb1; clear hb1)
            refine bodyPost_ret (v := .agg #[.int .i64 6, .int .i64 0, .int .i64 0, .string ⟨#[]⟩, .slice none 0 0]) (by simp [results, Tryz.results46, go_sem, p0, p1, p2, p3, p4]) rfl ⟨by rw [fr_out (by omega)], ?_⟩
            exact set5 pb _ _ _ _ _
        · go_wp2_with (go_at_call 34; refine (doubt_any _).mono ?_; rintro e w1 ⟨rfl, hb1⟩; obtain ⟨p0, p1, p2, p3, p4, pf, pz, pb⟩ := own5 hb1; clear hb1)
          refine bodyPost_ret (v := .agg #[.int .i64 6, .int .i64 0, .int .i64 0, .string ⟨#[]⟩, .slice none 0 0]) (by simp [results, Tryz.results46, go_sem, p0, p1, p2, p3, p4]) rfl ⟨by rw [fr_out (by omega)], ?_⟩
          exact set5 pb _ _ _ _ _
      · have u1 := HC2.out h1
        obtain ⟨u1, u6, u7⟩ := u1
        clear h1
        by_cases h2 : nn m ≤ 99999999999
        · by_cases h3 : -99999999999 ≤ nn m
          · go_wp2
            refine bodyPost_ret (v := .agg #[.int .i64 1, .int .i64 (nn m), .int .i64 (nd m), .string ⟨#[]⟩, .slice none 0 0]) (by simp [results, Tryz.results46, go_sem]) rfl ⟨by rw [fr_in ⟨h2, h3⟩], ?_⟩
            exact (Below.refl _ _).alloc (Nat.le_refl _) _
          · go_wp2_with (go_at_call 34; refine (doubt_any _).mono ?_; rintro e w1 ⟨rfl, hb1⟩; obtain ⟨p0, p1, p2, p3, p4, pf, pz, pb⟩ := own5 hb1; clear hb1)
            refine bodyPost_ret (v := .agg #[.int .i64 6, .int .i64 0, .int .i64 0, .string ⟨#[]⟩, .slice none 0 0]) (by simp [results, Tryz.results46, go_sem, p0, p1, p2, p3, p4]) rfl ⟨by rw [fr_out (by omega)], ?_⟩
            exact set5 pb _ _ _ _ _
        · go_wp2_with (go_at_call 34; refine (doubt_any _).mono ?_; rintro e w1 ⟨rfl, hb1⟩; obtain ⟨p0, p1, p2, p3, p4, pf, pz, pb⟩ := own5 hb1; clear hb1)
          refine bodyPost_ret (v := .agg #[.int .i64 6, .int .i64 0, .int .i64 0, .string ⟨#[]⟩, .slice none 0 0]) (by simp [results, Tryz.results46, go_sem, p0, p1, p2, p3, p4]) rfl ⟨by rw [fr_out (by omega)], ?_⟩
          exact set5 pb _ _ _ _ _

theorem fr_int (n : Int) (h : n ≤ 99999999999 ∧ -99999999999 ≤ n) : fr (16 * n) = ⟨1, n, 1, ⟨#[]⟩⟩ := by
  have e1 : nn (16 * n) = n := by unfold nn nd; rw [if_pos (by omega)]; omega
  have e2 : nd (16 * n) = 1 := by unfold nd; rw [if_pos (by omega)]
  rw [fr_in (by rw [e1]; exact h), e1, e2]
theorem fr_int_out (n : Int) (h : ¬ (n ≤ 99999999999 ∧ -99999999999 ≤ n)) : fr (16 * n) = ⟨6, 0, 0, ⟨#[]⟩⟩ := by
  have e1 : nn (16 * n) = n := by unfold nn nd; rw [if_pos (by omega)]; omega
  exact fr_out (by rw [e1]; exact h)

theorem int_any (n : Int) (w : World) :
    Calls Tryz.prog 15 #[.int .i64 n] w fun e w' => e = .returned (.agg #[.int .i64 (fr (16 * n)).kind, .int .i64 (fr (16 * n)).num, .int .i64 (fr (16 * n)).den, .string (fr (16 * n)).text, .slice none 0 0]) ∧ Below w.heap.size w w' := by
  by_cases h1 : n ≤ 99999999999 ∧ -99999999999 ≤ n
  · rw [fr_int n h1]
    exact int_small n w h1.1 h1.2
  · rw [fr_int_out n h1]
    have hh : n > 99999999999 ∨ n < -99999999999 := by omega
    rcases hh with hh | hh
    all_goals
      clear h1
      go_enter Tryz.func15, Tryz.ntmps15
      go_wp2_with (go_at_call 34; refine (doubt_any _).mono ?_; rintro e w1 ⟨rfl, hb1⟩; obtain ⟨p0, p1, p2, p3, p4, pf, pz, pb⟩ := own5 hb1; clear hb1)
      refine bodyPost_ret (v := .agg #[.int .i64 6, .int .i64 0, .int .i64 0, .string ⟨#[]⟩, .slice none 0 0]) (by simp [results, Tryz.results15, go_sem, p0, p1, p2, p3, p4]) rfl ⟨rfl, ?_⟩
      exact set5 pb _ _ _ _ _

/-- 'argPart': a number of sixteenths, within 2^45. -/
def clamp45 (n : Int) : Int := max (min n 35184372088832) (-35184372088832)


end Go.Proofs.YtkglbccdiofnkaaGreatDoor
