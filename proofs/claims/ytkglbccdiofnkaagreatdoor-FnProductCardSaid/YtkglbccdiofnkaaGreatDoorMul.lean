/-
'Mul', 'own' and 'productOf' of the reference.
-/
import Derived.Test.YtkglbccdiofnkaaGreatDoorMemP
import Derived.Test.YtkglbccdiofnkaaGreatDoorItem
import Derived.Deep.QuietTactic
import Derived.BigQuiet
namespace Go.Proofs.YtkglbccdiofnkaaGreatDoor
open Go.RowKit

theorem abs_any (n : Int) (w : World) (h1 : n ≤ 99999999999) (h2 : -99999999999 ≤ n) :
    Calls Tryz.prog 260 #[.int .i64 n] w fun e w' => e = .returned (.int .i64 (if n < 0 then -n else n)) ∧ w = w' := by
  by_cases h : n < 0
  · rw [if_pos h]
    go_enter Tryz.func260, Tryz.ntmps260
    go_wp2
    go_ret
    exact ⟨rfl, rfl⟩
  · rw [if_neg h]
    go_enter Tryz.func260, Tryz.ntmps260
    go_wp2
    go_ret
    exact ⟨rfl, rfl⟩

/-- 'own': what an argument is as a number. -/
def ownR (v : FV) : FV × Bool := if v.kind = 1 ∨ v.kind = 3 then (ownV v, true) else if v.kind = 4 then (v, false) else (⟨6, 0, 0, ⟨#[]⟩⟩, false)

set_option maxRecDepth 100000 in
set_option maxHeartbeats 1000000 in
theorem own_any (v : FV) (w : World) (hok : v.ok) :
    Calls Tryz.prog 262 #[.agg #[.int .i64 v.kind, .int .i64 v.num, .int .i64 v.den, .string v.text, .slice none 0 0]] w
      fun e w' => e = .returned (.tuple #[.agg #[.int .i64 (ownR v).1.kind, .int .i64 (ownR v).1.num, .int .i64 (ownR v).1.den, .string (ownR v).1.text, .slice none 0 0], .bool (ownR v).2]) ∧ Below w.heap.size w w' := by
  have hu26 := Tryz.underlying31
  by_cases h1 : v.kind = 1
  · have e : ownR v = (v, true) := by unfold ownR ownV; rw [if_pos (.inl h1), if_neg (by omega)]
    rw [e]
    dsimp only
    rw [h1]
    clear e h1 hok
    go_enter Tryz.func262, Tryz.ntmps262
    go_wp2
    exact bodyPost_ret (v := .tuple #[.agg #[.int .i64 1, .int .i64 v.num, .int .i64 v.den, .string v.text, .slice none 0 0], .bool true]) (by simp [results, Tryz.results262, go_sem]) rfl ⟨rfl, ((Below.refl _ _).alloc (Nat.le_refl _) _).alloc (by simp) _⟩
  · by_cases h3 : v.kind = 3
    · have e : ownR v = (⟨1, v.num, 1, ⟨#[]⟩⟩, true) := by unfold ownR ownV; rw [if_pos (.inr h3), if_pos h3]
      have hn := hok.logic h3
      have HI : Hid (∀ W, Calls Tryz.prog 15 #[.int .i64 v.num] W fun e w' => e = .returned (.agg #[.int .i64 1, .int .i64 v.num, .int .i64 1, .string ⟨#[]⟩, .slice none 0 0]) ∧ Below W.heap.size W w') := fun W => int_small v.num W (by omega) (by omega)
      rw [e]
      dsimp only
      rw [h3]
      clear e h1 h3 hok hn
      go_enter Tryz.func262, Tryz.ntmps262
      go_wp2_with (go_at_call 15; refine (HI.out _).mono ?_; rintro e w2 ⟨rfl, hb2⟩; obtain ⟨c2, f2, z2, k2⟩ := box_cells (heap_new2b _ _ _) hb2)
      refine bodyPost_ret (v := .tuple #[.agg #[.int .i64 1, .int .i64 v.num, .int .i64 1, .string ⟨#[]⟩, .slice none 0 0], .bool true]) (by simp [results, Tryz.results262, go_sem, c2]) rfl ⟨rfl, ?_⟩
      have pb := below_two hb2
      clear c2 f2
      (repeat refine below_set1 ?_ _ _)
      exact pb
    · by_cases h4 : v.kind = 4
      · have e : ownR v = (v, false) := by unfold ownR; rw [if_neg (by omega), if_pos h4]
        rw [e]
        dsimp only
        rw [h4]
        clear e h1 h3 h4 hok
        go_enter Tryz.func262, Tryz.ntmps262
        go_wp2
        exact bodyPost_ret (v := .tuple #[.agg #[.int .i64 4, .int .i64 v.num, .int .i64 v.den, .string v.text, .slice none 0 0], .bool false]) (by simp [results, Tryz.results262, go_sem]) rfl ⟨rfl, ((Below.refl _ _).alloc (Nat.le_refl _) _).alloc (by simp) _⟩
      · have e : ownR v = (⟨6, 0, 0, ⟨#[]⟩⟩, false) := by unfold ownR; rw [if_neg (by omega), if_neg h4]
        have t1 : (v.kind == 1) = false := by simpa using h1
        have t3 : (v.kind == 3) = false := by simpa using h3
        have t4 : (v.kind == 4) = false := by simpa using h4
        rw [e]
        dsimp only
        clear e h1 h3 h4 hok
        go_enter Tryz.func262, Tryz.ntmps262
        go_wp2_with (go_at_call 34; refine (doubt_any _).mono ?_; rintro e w2 ⟨rfl, hb2⟩; obtain ⟨c2, f2, z2, k2⟩ := box_cells (heap_new2b _ _ _) hb2)
        refine bodyPost_ret (v := .tuple #[.agg #[.int .i64 6, .int .i64 0, .int .i64 0, .string ⟨#[]⟩, .slice none 0 0], .bool false]) (by simp [results, Tryz.results262, go_sem, c2]) rfl ⟨rfl, ?_⟩
        have pb := below_two hb2
        clear c2 f2
        (repeat refine below_set1 ?_ _ _)
        exact pb

theorem below_set2 {w w1 : World} (h : Below w.heap.size w w1) (j : Nat) (v : Value) : Below w.heap.size w (w1.setCell ⟨w.heap.size + 1 + 1, j, none⟩ v) := h.setCell (p := ⟨w.heap.size + 1 + 1, j, none⟩) (by show w.heap.size ≤ w.heap.size + 1 + 1; omega) v
theorem mulV_no {a b : FV} (h : ¬ (a.kind = 1 ∧ b.kind = 1 ∧ (a.num ≤ 16777216 ∧ -16777216 ≤ a.num) ∧ (b.num ≤ 16777216 ∧ -16777216 ≤ b.num))) : mulV a b = ⟨6, 0, 0, ⟨#[]⟩⟩ := by unfold mulV; rw [if_neg h]
theorem mul_bd {a b : Int} (h1 : a ≤ 16777216) (h2 : -16777216 ≤ a) (h3 : b ≤ 16777216) (h4 : -16777216 ≤ b) : a * b ≤ 281474976710656 ∧ -281474976710656 ≤ a * b := by
  have e1 : (a * b).natAbs = a.natAbs * b.natAbs := Int.natAbs_mul a b
  have e2 : a.natAbs * b.natAbs ≤ 16777216 * 16777216 := Nat.mul_le_mul (by omega) (by omega)
  omega
theorem den_mul {a b : Int} (ha : a = 1 ∨ a = 2 ∨ a = 4 ∨ a = 8 ∨ a = 16) (hb : b = 1 ∨ b = 2 ∨ b = 4 ∨ b = 8 ∨ b = 16) : 0 < a * b ∧ a * b ≤ 1048576 := by
  rcases ha with rfl | rfl | rfl | rfl | rfl <;> rcases hb with rfl | rfl | rfl | rfl | rfl <;> decide

set_option maxRecDepth 100000 in
set_option maxHeartbeats 2000000 in
theorem mul_any (a b : FV) (w : World) (ha : a.ok) (hb : b.ok) :
    Calls Tryz.prog 192 #[.agg #[.int .i64 a.kind, .int .i64 a.num, .int .i64 a.den, .string a.text, .slice none 0 0], .agg #[.int .i64 b.kind, .int .i64 b.num, .int .i64 b.den, .string b.text, .slice none 0 0]] w
      fun e w' => e = .returned (.agg #[.int .i64 (mulV a b).kind, .int .i64 (mulV a b).num, .int .i64 (mulV a b).den, .string (mulV a b).text, .slice none 0 0]) ∧ Below w.heap.size w w' := by
  have hu26 := Tryz.underlying31
  have DB : Hid (∀ W, Calls Tryz.prog 34 #[] W fun e w' => e = .returned (.agg #[.int .i64 6, .int .i64 0, .int .i64 0, .string ⟨#[]⟩, .slice none 0 0]) ∧ Below W.heap.size W w') := doubt_any
  by_cases h1 : a.kind = 1
  · obtain ⟨a1, a2, a3⟩ := ha.number h1
    have HA : Hid (∀ W, Calls Tryz.prog 260 #[.int .i64 a.num] W fun e w' => e = .returned (.int .i64 (if a.num < 0 then -a.num else a.num)) ∧ W = w') := fun W => abs_any a.num W a1 a2
    by_cases h2 : b.kind = 1
    · obtain ⟨b1, b2, b3⟩ := hb.number h2
      have HB : Hid (∀ W, Calls Tryz.prog 260 #[.int .i64 b.num] W fun e w' => e = .returned (.int .i64 (if b.num < 0 then -b.num else b.num)) ∧ W = w') := fun W => abs_any b.num W b1 b2
      obtain ⟨p, hp⟩ : ∃ p, p = if a.num < 0 then -a.num else a.num := ⟨_, rfl⟩
      obtain ⟨q, hq⟩ : ∃ q, q = if b.num < 0 then -b.num else b.num := ⟨_, rfl⟩
      rw [← hp] at HA
      rw [← hq] at HB
      by_cases h3 : a.num ≤ 16777216 ∧ -16777216 ≤ a.num
      · have t3 : ¬ 16777216 < p := by rw [hp]; split <;> omega
        by_cases h4 : b.num ≤ 16777216 ∧ -16777216 ≤ b.num
        · have t4 : ¬ 16777216 < q := by rw [hq]; split <;> omega
          have e : mulV a b = frc (a.num * b.num) (a.den * b.den) := by unfold mulV; rw [if_pos ⟨h1, h2, h3, h4⟩]
          obtain ⟨m1, m2⟩ := mul_bd h3.1 h3.2 h4.1 h4.2
          obtain ⟨d1, d2⟩ := den_mul a3 b3
          have HFR : Hid (∀ W, Calls Tryz.prog 46 #[.int .i64 (a.num * b.num), .int .i64 (a.den * b.den)] W fun e w' => e = .returned (.agg #[.int .i64 (frc (a.num * b.num) (a.den * b.den)).kind, .int .i64 (frc (a.num * b.num) (a.den * b.den)).num, .int .i64 (frc (a.num * b.num) (a.den * b.den)).den, .string (frc (a.num * b.num) (a.den * b.den)).text, .slice none 0 0]) ∧ Below W.heap.size W w') :=
            fun W => frac_all _ _ W d1 d2 (by omega) (by omega)
          have w1 : wrap64 (a.num * b.num) = a.num * b.num := by unfold wrap64; omega
          have w2 : wrap64 (a.den * b.den) = a.den * b.den := by unfold wrap64; omega
          rw [e, h1, h2]
          obtain ⟨r, hr⟩ : ∃ r, r = frc (a.num * b.num) (a.den * b.den) := ⟨_, rfl⟩
          rw [← hr] at HFR ⊢
          clear e hr m1 m2 d1 d2 a1 a2 a3 b1 b2 b3 h1 h2 h3 h4 ha hb hp hq
          go_enter Tryz.func192, Tryz.ntmps192
          go_wp2_with fail
          refine (HA.out _).mono ?_
          rintro e w1 ⟨rfl, rfl⟩
          go_wp2_with fail
          refine (HB.out _).mono ?_
          rintro e w1 ⟨rfl, rfl⟩
          go_wp2_with (go_at_call 46; refine (HFR.out _).mono ?_; rintro e w2 ⟨rfl, hb2⟩; obtain ⟨c2, f2, z2, k2⟩ := box_cells (heap_new3c _ _ _ _) hb2)
          refine bodyPost_ret (v := .agg #[.int .i64 r.kind, .int .i64 r.num, .int .i64 r.den, .string r.text, .slice none 0 0]) (by simp [results, Tryz.results192, go_sem, c2]) rfl ⟨rfl, ?_⟩
          have pb := below_three hb2
          clear c2 f2
          (repeat refine below_set2 ?_ _ _)
          exact pb
        · have t4 : 16777216 < q := by rw [hq]; split <;> omega
          rw [mulV_no fun h => h4 h.2.2.2, h1, h2]
          clear a1 a2 a3 b1 b2 b3 h1 h2 h3 h4 ha hb hp hq
          go_enter Tryz.func192, Tryz.ntmps192
          go_wp2_with fail
          refine (HA.out _).mono ?_
          rintro e w1 ⟨rfl, rfl⟩
          go_wp2_with fail
          refine (HB.out _).mono ?_
          rintro e w1 ⟨rfl, rfl⟩
          go_wp2_with (go_at_call 34; refine (DB.out _).mono ?_; rintro e w2 ⟨rfl, hb2⟩; obtain ⟨c2, f2, z2, k2⟩ := box_cells (heap_new3c _ _ _ _) hb2)
          refine bodyPost_ret (v := .agg #[.int .i64 6, .int .i64 0, .int .i64 0, .string ⟨#[]⟩, .slice none 0 0]) (by simp [results, Tryz.results192, go_sem, c2]) rfl ⟨rfl, ?_⟩
          have pb := below_three hb2
          clear c2 f2
          (repeat refine below_set2 ?_ _ _)
          exact pb
      · have t3 : 16777216 < p := by rw [hp]; split <;> omega
        rw [mulV_no fun h => h3 h.2.2.1, h1, h2]
        clear a1 a2 a3 b1 b2 b3 h1 h2 h3 ha hb hp hq
        go_enter Tryz.func192, Tryz.ntmps192
        go_wp2_with fail
        refine (HA.out _).mono ?_
        rintro e w1 ⟨rfl, rfl⟩
        go_wp2_with (go_at_call 34; refine (DB.out _).mono ?_; rintro e w2 ⟨rfl, hb2⟩; obtain ⟨c2, f2, z2, k2⟩ := box_cells (heap_new3c _ _ _ _) hb2)
        refine bodyPost_ret (v := .agg #[.int .i64 6, .int .i64 0, .int .i64 0, .string ⟨#[]⟩, .slice none 0 0]) (by simp [results, Tryz.results192, go_sem, c2]) rfl ⟨rfl, ?_⟩
        have pb := below_three hb2
        clear c2 f2
        (repeat refine below_set2 ?_ _ _)
        exact pb
    · have t2 : (b.kind != 1) = true := by simpa using h2
      rw [mulV_no fun h => h2 h.2.1, h1]
      clear a1 a2 a3 h1 h2 ha hb
      go_enter Tryz.func192, Tryz.ntmps192
      go_wp2_with (go_at_call 34; refine (DB.out _).mono ?_; rintro e w2 ⟨rfl, hb2⟩; obtain ⟨c2, f2, z2, k2⟩ := box_cells (heap_new3c _ _ _ _) hb2)
      refine bodyPost_ret (v := .agg #[.int .i64 6, .int .i64 0, .int .i64 0, .string ⟨#[]⟩, .slice none 0 0]) (by simp [results, Tryz.results192, go_sem, c2]) rfl ⟨rfl, ?_⟩
      have pb := below_three hb2
      clear c2 f2
      (repeat refine below_set2 ?_ _ _)
      exact pb
  · have t1 : (a.kind != 1) = true := by simpa using h1
    rw [mulV_no fun h => h1 h.1]
    clear h1 ha hb
    go_enter Tryz.func192, Tryz.ntmps192
    go_wp2_with (go_at_call 34; refine (DB.out _).mono ?_; rintro e w2 ⟨rfl, hb2⟩; obtain ⟨c2, f2, z2, k2⟩ := box_cells (heap_new3c _ _ _ _) hb2)
    refine bodyPost_ret (v := .agg #[.int .i64 6, .int .i64 0, .int .i64 0, .string ⟨#[]⟩, .slice none 0 0]) (by simp [results, Tryz.results192, go_sem, c2]) rfl ⟨rfl, ?_⟩
    have pb := below_three hb2
    clear c2 f2
    (repeat refine below_set2 ?_ _ _)
    exact pb

end Go.Proofs.YtkglbccdiofnkaaGreatDoor
