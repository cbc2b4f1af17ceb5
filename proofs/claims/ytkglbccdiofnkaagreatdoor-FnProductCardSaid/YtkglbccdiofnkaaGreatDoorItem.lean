/-
The cells of the laws' tables: part, Item.val.
-/
import Derived.Test.YtkglbccdiofnkaaGreatDoorMade
import Derived.Test.YtkglbccdiofnkaaGreatDoorBools
namespace Go.Proofs.YtkglbccdiofnkaaGreatDoor
open Go.RowKit

/-- A number from 0 to n - 1, by any number. -/
def partI (k n : Int) : Int := if k.tmod n < 0 then k.tmod n + n else k.tmod n
theorem partI_bd (k n : Int) (hn : 0 < n) : 0 ≤ partI k n ∧ partI k n < n := by
  unfold partI
  have h1 := Int.tmod_lt_of_pos k hn
  have h2 := Int.lt_tmod_of_pos k hn
  split <;> omega

set_option maxRecDepth 100000 in
theorem part_any (k n : Int) (w : World) (hn : 0 < n) (hm : n ≤ 1000000) :
    Calls Tryz.prog 33 #[.int .i64 k, .int .i64 n] w fun e w' => e = .returned (.int .i64 (partI k n)) ∧ w = w' := by
  have h1 := Int.tmod_lt_of_pos k hn
  have h2 := Int.lt_tmod_of_pos k hn
  have hz : (n == 0) = false := beq_eq_false_iff_ne.2 (by omega)
  have hz2 : ¬ n = 0 := by omega
  have hwm : wrap64 (k.tmod n) = k.tmod n := by unfold wrap64; omega
  have hw : wrap64 (k.tmod n + n) = k.tmod n + n := by unfold wrap64; omega
  by_cases h : k.tmod n < 0
  · have hp : partI k n = k.tmod n + n := by unfold partI; rw [if_pos h]
    rw [hp]
    go_enter Tryz.func33, Tryz.ntmps33
    go_wp2
    go_ret
    exact ⟨rfl, rfl⟩
  · have hp : partI k n = k.tmod n := by unfold partI; rw [if_neg h]
    rw [hp]
    go_enter Tryz.func33, Tryz.ntmps33
    go_wp2
    go_ret
    exact ⟨rfl, rfl⟩

/-- The errors of the tables. -/
def errs : List ByteArray := [⟨#[35, 68, 73, 86, 47, 48, 33]⟩, ⟨#[35, 78, 47, 65]⟩, ⟨#[35, 86, 65, 76, 85, 69, 33]⟩, ⟨#[35, 82, 69, 70, 33]⟩, ⟨#[35, 78, 65, 77, 69, 63]⟩, ⟨#[35, 78, 85, 77, 33]⟩, ⟨#[35, 78, 85, 76, 76, 33]⟩]
/-- The value of a cell. -/
def iv (k n : Int) (t : ByteArray) : FV :=
  if partI k 6 = 1 then fr (16 * n) else if partI k 6 = 2 then fr (4 * n.tmod 1099511627776) else if partI k 6 = 3 then ⟨2, 0, 0, t⟩
  else if partI k 6 = 4 then bv (n.tmod 2 != 0) else if partI k 6 = 5 then ⟨4, 0, 0, errs.getD (partI n 7).toNat ⟨#[]⟩⟩ else ⟨0, 0, 0, ⟨#[]⟩⟩

theorem below_three {w w1 : World} {A B C : Obj} (h : Below (((w.alloc A).alloc B).alloc C).heap.size (((w.alloc A).alloc B).alloc C) w1) : Below w.heap.size w w1 :=
  ((((Below.refl w.heap.size w).alloc (Nat.le_refl _) A).alloc (by simp) B).alloc (by simp; omega) C).trans (h.mono (by simp; omega))
def AGV (r : FV) : Value := .agg #[.int .i64 r.kind, .int .i64 r.num, .int .i64 r.den, .string r.text, .slice none 0 0]

set_option linter.unusedSimpArgs false in
set_option maxRecDepth 100000 in
set_option maxHeartbeats 2000000 in
theorem val_any (k n : Int) (t : ByteArray) (w : World) :
    Calls Tryz.prog 31 #[.agg #[.int .i64 k, .int .i64 n, .string t]] w fun e w' => e = .returned (.agg #[.int .i64 (iv k n t).kind, .int .i64 (iv k n t).num, .int .i64 (iv k n t).den, .string (iv k n t).text, .slice none 0 0]) ∧ Below w.heap.size w w' := by
  have hu26 := Tryz.underlying31
  obtain ⟨h0, h6⟩ := partI_bd k 6 (by decide)
  have hc : partI k 6 = 0 ∨ partI k 6 = 1 ∨ partI k 6 = 2 ∨ partI k 6 = 3 ∨ partI k 6 = 4 ∨ partI k 6 = 5 := by omega
  have HP : Hid (∀ W, Calls Tryz.prog 33 #[.int .i64 k, .int .i64 6] W fun e w' => e = .returned (.int .i64 (partI k 6)) ∧ W = w') := fun W => part_any k 6 W (by decide) (by decide)
  rcases hc with hc | hc | hc | hc | hc | hc
  · have e : iv k n t = ⟨0, 0, 0, ⟨#[]⟩⟩ := by unfold iv; simp [hc]
    rw [e]
    rw [hc] at HP
    clear e h0 h6 hc
    go_enter Tryz.func31, Tryz.ntmps31
    go_wp2_with (go_at_call 33; refine (HP.out _).mono ?_; rintro e w1 ⟨rfl, rfl⟩)
    exact bodyPost_ret (v := .agg #[.int .i64 0, .int .i64 0, .int .i64 0, .string ⟨#[]⟩, .slice none 0 0]) (by simp [results, Tryz.results31, go_sem]) rfl ⟨rfl, ((Below.refl _ _).alloc (Nat.le_refl _) _).alloc (by simp) _⟩
  · have e : iv k n t = fr (16 * n) := by unfold iv; simp [hc]
    rw [e]
    rw [hc] at HP
    clear e h0 h6 hc
    go_enter Tryz.func31, Tryz.ntmps31
    go_wp2_with (first
      | (go_at_call 33; refine (HP.out _).mono ?_; rintro e w1 ⟨rfl, rfl⟩)
      | (go_at_call 15; refine (int_any _ _).mono ?_; rintro e w2 ⟨rfl, hb2⟩; obtain ⟨c2, f2, z2, k2⟩ := box_cells (heap_new2b _ _ _) hb2))
    refine bodyPost_ret (v := .agg #[.int .i64 (fr (16 * n) : FV).kind, .int .i64 (fr (16 * n) : FV).num, .int .i64 (fr (16 * n) : FV).den, .string (fr (16 * n) : FV).text, .slice none 0 0]) (by simp [results, Tryz.results31, go_sem, c2, bv]) rfl ⟨rfl, ?_⟩
    have pb := below_two hb2
    clear c2 f2
    (repeat refine below_set1 ?_ _ _)
    exact pb
  · have e : iv k n t = fr (4 * n.tmod 1099511627776) := by unfold iv; simp [hc]
    rw [e]
    rw [hc] at HP
    have h1 := Int.tmod_lt_of_pos n (show (0 : Int) < 1099511627776 by decide)
    have h2 := Int.lt_tmod_of_pos n (show (0 : Int) < 1099511627776 by decide)
    have hwm : wrap64 (n.tmod 1099511627776) = n.tmod 1099511627776 := by unfold wrap64; omega
    have HFR : Hid (∀ W, Calls Tryz.prog 46 #[.int .i64 (n.tmod 1099511627776), .int .i64 4] W fun e w' => e = .returned (.agg #[.int .i64 (fr (4 * n.tmod 1099511627776)).kind, .int .i64 (fr (4 * n.tmod 1099511627776)).num, .int .i64 (fr (4 * n.tmod 1099511627776)).den, .string (fr (4 * n.tmod 1099511627776)).text, .slice none 0 0]) ∧ Below W.heap.size W w') := fun W => frac_any _ 4 _ W (by omega) (by omega) (by omega) (by omega) (by omega)
    clear h1 h2
    clear e h0 h6 hc
    go_enter Tryz.func31, Tryz.ntmps31
    go_wp2_with (first
      | (go_at_call 33; refine (HP.out _).mono ?_; rintro e w1 ⟨rfl, rfl⟩)
      | (go_at_call 46; refine (HFR.out _).mono ?_; rintro e w2 ⟨rfl, hb2⟩; obtain ⟨c2, f2, z2, k2⟩ := box_cells (heap_new2b _ _ _) hb2))
    refine bodyPost_ret (v := .agg #[.int .i64 (fr (4 * n.tmod 1099511627776) : FV).kind, .int .i64 (fr (4 * n.tmod 1099511627776) : FV).num, .int .i64 (fr (4 * n.tmod 1099511627776) : FV).den, .string (fr (4 * n.tmod 1099511627776) : FV).text, .slice none 0 0]) (by simp [results, Tryz.results31, go_sem, c2, bv]) rfl ⟨rfl, ?_⟩
    have pb := below_two hb2
    clear c2 f2
    (repeat refine below_set1 ?_ _ _)
    exact pb
  · have e : iv k n t = ⟨2, 0, 0, t⟩ := by unfold iv; simp [hc]
    rw [e]
    rw [hc] at HP
    clear e h0 h6 hc
    go_enter Tryz.func31, Tryz.ntmps31
    go_wp2_with (first
      | (go_at_call 33; refine (HP.out _).mono ?_; rintro e w1 ⟨rfl, rfl⟩)
      | (go_at_call 18; refine (str_any _ _).mono ?_; rintro e w2 ⟨rfl, hb2⟩; obtain ⟨c2, f2, z2, k2⟩ := box_cells (heap_new2b _ _ _) hb2))
    refine bodyPost_ret (v := .agg #[.int .i64 (⟨2, 0, 0, t⟩ : FV).kind, .int .i64 (⟨2, 0, 0, t⟩ : FV).num, .int .i64 (⟨2, 0, 0, t⟩ : FV).den, .string (⟨2, 0, 0, t⟩ : FV).text, .slice none 0 0]) (by simp [results, Tryz.results31, go_sem, c2, bv]) rfl ⟨rfl, ?_⟩
    have pb := below_two hb2
    clear c2 f2
    (repeat refine below_set1 ?_ _ _)
    exact pb
  · have e : iv k n t = bv (n.tmod 2 != 0) := by unfold iv; simp [hc]
    rw [e]
    rw [hc] at HP
    have h1 := Int.tmod_lt_of_pos n (show (0 : Int) < 2 by decide)
    have h2 := Int.lt_tmod_of_pos n (show (0 : Int) < 2 by decide)
    have hwm : wrap64 (n.tmod 2) = n.tmod 2 := by unfold wrap64; omega
    clear h1 h2
    clear e h0 h6 hc
    go_enter Tryz.func31, Tryz.ntmps31
    go_wp2_with (first
      | (go_at_call 33; refine (HP.out _).mono ?_; rintro e w1 ⟨rfl, rfl⟩)
      | (go_at_call 47; refine (bool_any _ _).mono ?_; rintro e w2 ⟨rfl, hb2⟩; obtain ⟨c2, f2, z2, k2⟩ := box_cells (heap_new2b _ _ _) hb2))
    refine bodyPost_ret (v := .agg #[.int .i64 (bv (n.tmod 2 != 0) : FV).kind, .int .i64 (bv (n.tmod 2 != 0) : FV).num, .int .i64 (bv (n.tmod 2 != 0) : FV).den, .string (bv (n.tmod 2 != 0) : FV).text, .slice none 0 0]) (by simp [results, Tryz.results31, go_sem, c2, bv]) rfl ⟨rfl, ?_⟩
    have pb := below_two hb2
    clear c2 f2
    (repeat refine below_set1 ?_ _ _)
    exact pb
  · have e : iv k n t = ⟨4, 0, 0, errs.getD (partI n 7).toNat ⟨#[]⟩⟩ := by unfold iv; simp [hc]
    rw [e]
    rw [hc] at HP
    have HQ : Hid (∀ W, Calls Tryz.prog 33 #[.int .i64 n, .int .i64 7] W fun e w' => e = .returned (.int .i64 (partI n 7)) ∧ W = w') := fun W => part_any n 7 W (by decide) (by decide)
    obtain ⟨g0, g7⟩ := partI_bd n 7 (by decide)
    have hq : partI n 7 = 0 ∨ partI n 7 = 1 ∨ partI n 7 = 2 ∨ partI n 7 = 3 ∨ partI n 7 = 4 ∨ partI n 7 = 5 ∨ partI n 7 = 6 := by omega
    clear e h0 h6 hc g0 g7
    rcases hq with hq | hq | hq | hq | hq | hq | hq <;> rw [hq] at HQ ⊢ <;> clear hq
    all_goals
      go_enter Tryz.func31, Tryz.ntmps31
      go_wp2_with fail
      refine (HP.out _).mono ?_
      rintro e w1 ⟨rfl, rfl⟩
      go_wp2_with fail
      refine (HQ.out _).mono ?_
      rintro e w1 ⟨rfl, rfl⟩
      go_wp2_with (go_at_call 48; refine (err_any _ _).mono ?_; rintro e w2 ⟨rfl, hb2⟩; obtain ⟨c2, f2, z2, k2⟩ := box_cells (heap_new3b _ _ _ _) hb2)
      refine bodyPost_ret (v := .agg #[.int .i64 4, .int .i64 0, .int .i64 0, .string _, .slice none 0 0]) (by simp [results, Tryz.results31, go_sem, c2]; rfl) rfl ⟨rfl, ?_⟩
      have pb := below_three hb2
      clear c2 f2
      (repeat refine below_set1 ?_ _ _)
      exact pb

end Go.Proofs.YtkglbccdiofnkaaGreatDoor
