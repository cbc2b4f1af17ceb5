/-
'abs', 'numeric', 'every(args, numeric)' of the reference, at any single values: there is a truth that they answer.
-/
import Derived.Test.YtopomonencffkaaGreatDoorReadW
import Derived.Test.YtopomonencffkaaGreatDoorReadD
import Derived.Test.YtopomonencffkaaGreatDoorReadL
import Derived.Test.YtopomonencffkaaGreatDoorEvery
import Derived.Test.YtopomonencffkaaGreatDoorAgrees
import Derived.Test.YtopomonencffkaaGreatDoorNums
import Derived.Laws.StructEq
import Derived.Deep.RegionWith
namespace Go.Proofs.YtopomonencffkaaGreatDoor
open Go.RowKit

theorem abs_any (n : Int) (w : World) (h1 : n ≤ 1125899906842624) (h2 : -1125899906842624 ≤ n) :
    Calls Tryz.prog 227 #[.int .i64 n] w fun e w' => e = .returned (.int .i64 (max n (-n))) ∧ w = w' := by
  have hw : wrap64 (-n) = -n := by unfold wrap64; omega
  clear h1 h2
  go_enter Tryz.func227, Tryz.ntmps227
  go_wp2
  all_goals
    go_ret
    refine ⟨?_, rfl⟩
    first
      | (show Ending.returned (Value.int .i64 (-n)) = _; congr 2; omega)
      | (show Ending.returned (Value.int .i64 n) = _; congr 2; omega)

theorem keepN {W W' : World} {p q : Nat} {s : ByteArray} {r : FV} (hb : Below W.heap.size W W') (h : ((p < W.heap.size ∧ q < W.heap.size) ∧ W.cell? ⟨p, 3, none⟩ = some (.string s) ∧ W.cell? ⟨q, 0, none⟩ = some (.int .i64 r.kind) ∧ W.cell? ⟨q, 1, none⟩ = some (.int .i64 r.num) ∧ W.cell? ⟨q, 2, none⟩ = some (.int .i64 r.den) ∧ W.cell? ⟨q, 3, none⟩ = some (.string r.text) ∧ W.cell? ⟨q, 4, none⟩ = some (.slice none 0 0))) : ((p < W'.heap.size ∧ q < W'.heap.size) ∧ W'.cell? ⟨p, 3, none⟩ = some (.string s) ∧ W'.cell? ⟨q, 0, none⟩ = some (.int .i64 r.kind) ∧ W'.cell? ⟨q, 1, none⟩ = some (.int .i64 r.num) ∧ W'.cell? ⟨q, 2, none⟩ = some (.int .i64 r.den) ∧ W'.cell? ⟨q, 3, none⟩ = some (.string r.text) ∧ W'.cell? ⟨q, 4, none⟩ = some (.slice none 0 0)) := by
  obtain ⟨⟨hp, hq⟩, h1, h2, h3, h4, h5, h6⟩ := h
  exact ⟨⟨Nat.lt_of_lt_of_le hp hb.size, Nat.lt_of_lt_of_le hq hb.size⟩, (hb.cell (p := ⟨p, 3, none⟩) hp).trans h1, (hb.cell (p := ⟨q, 0, none⟩) hq).trans h2, (hb.cell (p := ⟨q, 1, none⟩) hq).trans h3, (hb.cell (p := ⟨q, 2, none⟩) hq).trans h4, (hb.cell (p := ⟨q, 3, none⟩) hq).trans h5, (hb.cell (p := ⟨q, 4, none⟩) hq).trans h6⟩

section
attribute [local go_sem] undef
set_option maxRecDepth 100000 in
set_option maxHeartbeats 4000000 in
theorem numeric_letters (n d : Int) (s : ByteArray) (hs : s.size ≤ 1000000000) (hw : wordB s = true) :
    ∃ b, ∀ w, Calls Tryz.prog 146 #[.agg #[.int .i64 2, .int .i64 n, .int .i64 d, .string s, .slice none 0 0]] w fun e w' => e = .returned (.bool b) ∧ Below w.heap.size w w' := by
  have hu26 := Tryz.underlying34
  obtain ⟨r, hr⟩ : ∃ r, r = rd s := ⟨_, rfl⟩
  have hok : r.ok := by rw [hr]; exact rd_ok s
  have HRD : Hid (∀ W, Calls Tryz.prog 218 #[.string s] W fun e w' => e = .returned (.agg #[.int .i64 r.kind, .int .i64 r.num, .int .i64 r.den, .string r.text, .slice none 0 0]) ∧ Below W.heap.size W w') := by
    rw [hr]; exact fun W => read_any s W hs
  have HL : Hid (∀ W, Calls Tryz.prog 164 #[.string s] W fun e w' => e = .returned (.bool (wordB s)) ∧ Below W.heap.size W w') := fun W => letters_any s W hs
  have HW : Hid (∀ W, Calls Tryz.prog 171 #[.agg #[.int .i64 r.kind, .int .i64 r.num, .int .i64 r.den, .string r.text, .slice none 0 0]] W fun e w' => e = .returned (.bool (r.kind == 1 && r.den == 1)) ∧ Below W.heap.size W w') := fun W => isWhole_any _ _ _ _ _ _ _ W
  clear hr
  · rw [hw] at HL
    refine ⟨true, fun w => ?_⟩
    clear hok hw HW
    go_enter Tryz.func146, Tryz.ntmps146
    go_wp2_with (go_at_call 218; refine (HRD.out _).mono ?_; rintro e w1 ⟨rfl, hb1⟩; obtain ⟨c1, f1, z1, k1⟩ := box_cells (heap_new1 w _) hb1)
    have pb1 := below_one hb1
    obtain ⟨W0, hW0⟩ : ∃ W0 : World, W0 = w1.alloc (.cells #[.int .i64 r.kind, .int .i64 r.num, .int .i64 r.den, .string r.text, .slice none 0 0] 34) := ⟨_, rfl⟩
    have pb0 : Below w.heap.size w W0 := by rw [hW0]; exact pb1.alloc pb1.size _
    have hS : ((w.heap.size < W0.heap.size ∧ w1.heap.size < W0.heap.size) ∧ W0.cell? ⟨w.heap.size, 3, none⟩ = some (.string s) ∧ W0.cell? ⟨w1.heap.size, 0, none⟩ = some (.int .i64 r.kind) ∧ W0.cell? ⟨w1.heap.size, 1, none⟩ = some (.int .i64 r.num) ∧ W0.cell? ⟨w1.heap.size, 2, none⟩ = some (.int .i64 r.den) ∧ W0.cell? ⟨w1.heap.size, 3, none⟩ = some (.string r.text) ∧ W0.cell? ⟨w1.heap.size, 4, none⟩ = some (.slice none 0 0)) := by
      rw [hW0]
      obtain ⟨m0, m1, m2⟩ := row_facts (heap_new1 w1 (.cells #[.int .i64 r.kind, .int .i64 r.num, .int .i64 r.den, .string r.text, .slice none 0 0] 34))
      refine ⟨⟨Nat.lt_trans z1 (by simp), m2⟩, ?_, m0 0, m0 1, m0 2, m0 3, m0 4⟩
      rw [World.cell?_alloc_lt _ _ _ (by exact z1)]
      exact c1 3
    rw [← hW0]
    clear hW0 c1 f1 k1
    have hS' := hS
    obtain ⟨_, s3, q0, q1, q2, q3, q4⟩ := hS'
    first
      | go_region_with
          (first
            | (go_at_call 164; refine (HL.out _).mono ?_; rintro e w2 ⟨rfl, hb2⟩; have hS2 := keepN (W := W0.drew) hb2 hS; clear s3 q0 q1 q2 q3 q4; have hS2' := hS2; obtain ⟨_, s3, q0, q1, q2, q3, q4⟩ := hS2'))
      | fail
    all_goals
      go_wp2
      go_ret
      exact ⟨rfl, pb0.drew.trans (hb2.mono pb0.size)⟩

set_option maxRecDepth 100000 in
set_option maxHeartbeats 4000000 in
theorem numeric_text (n d : Int) (s : ByteArray) (hs : s.size ≤ 1000000000) :
    ∃ b, ∀ w, Calls Tryz.prog 146 #[.agg #[.int .i64 2, .int .i64 n, .int .i64 d, .string s, .slice none 0 0]] w fun e w' => e = .returned (.bool b) ∧ Below w.heap.size w w' := by
  have hu26 := Tryz.underlying34
  obtain ⟨r, hr⟩ : ∃ r, r = rd s := ⟨_, rfl⟩
  have hok : r.ok := by rw [hr]; exact rd_ok s
  have HRD : Hid (∀ W, Calls Tryz.prog 218 #[.string s] W fun e w' => e = .returned (.agg #[.int .i64 r.kind, .int .i64 r.num, .int .i64 r.den, .string r.text, .slice none 0 0]) ∧ Below W.heap.size W w') := by
    rw [hr]; exact fun W => read_any s W hs
  have HL : Hid (∀ W, Calls Tryz.prog 164 #[.string s] W fun e w' => e = .returned (.bool (wordB s)) ∧ Below W.heap.size W w') := fun W => letters_any s W hs
  have HW : Hid (∀ W, Calls Tryz.prog 171 #[.agg #[.int .i64 r.kind, .int .i64 r.num, .int .i64 r.den, .string r.text, .slice none 0 0]] W fun e w' => e = .returned (.bool (r.kind == 1 && r.den == 1)) ∧ Below W.heap.size W w') := fun W => isWhole_any _ _ _ _ _ _ _ W
  clear hr
  cases hw : wordB s
  · rw [hw] at HL
    by_cases hc : (r.kind == 1 && r.den == 1) = true
    · rw [hc] at HW
      have hk : r.kind = 1 ∧ r.den = 1 := by simpa using hc
      obtain ⟨b1, b2, _⟩ := hok.number hk.1
      obtain ⟨t, hP⟩ := plain_some r.text r.num b1 b2
      have HP : Hid (∀ W, Calls Tryz.prog 226 #[.agg #[.int .i64 r.kind, .int .i64 r.num, .int .i64 r.den, .string r.text, .slice none 0 0]] W fun e w' => e = .returned (.string t) ∧ Below W.heap.size W w') := by rw [hk.1, hk.2]; exact hP
      have HAB : Hid (∀ W, Calls Tryz.prog 227 #[.int .i64 r.num] W fun e w' => e = .returned (.int .i64 (max r.num (-r.num))) ∧ W = w') := fun W => abs_any r.num W (by omega) (by omega)
      by_cases ht : t = s
      · have t1 : (t == s) = true := (Go.MapKept.bytes_beq _ _).2 ht
        have t2 : (t.toList == s.toList) = true := by rw [ht]; exact beq_self_eq_true _
        refine ⟨decide (max r.num (-r.num) < 1000000000), fun w => ?_⟩
        clear hc hk hok hw hP b1 b2
        go_enter Tryz.func146, Tryz.ntmps146
        go_wp2_with (go_at_call 218; refine (HRD.out _).mono ?_; rintro e w1 ⟨rfl, hb1⟩; obtain ⟨c1, f1, z1, k1⟩ := box_cells (heap_new1 w _) hb1)
        have pb1 := below_one hb1
        obtain ⟨W0, hW0⟩ : ∃ W0 : World, W0 = w1.alloc (.cells #[.int .i64 r.kind, .int .i64 r.num, .int .i64 r.den, .string r.text, .slice none 0 0] 34) := ⟨_, rfl⟩
        have pb0 : Below w.heap.size w W0 := by rw [hW0]; exact pb1.alloc pb1.size _
        have hS : ((w.heap.size < W0.heap.size ∧ w1.heap.size < W0.heap.size) ∧ W0.cell? ⟨w.heap.size, 3, none⟩ = some (.string s) ∧ W0.cell? ⟨w1.heap.size, 0, none⟩ = some (.int .i64 r.kind) ∧ W0.cell? ⟨w1.heap.size, 1, none⟩ = some (.int .i64 r.num) ∧ W0.cell? ⟨w1.heap.size, 2, none⟩ = some (.int .i64 r.den) ∧ W0.cell? ⟨w1.heap.size, 3, none⟩ = some (.string r.text) ∧ W0.cell? ⟨w1.heap.size, 4, none⟩ = some (.slice none 0 0)) := by
          rw [hW0]
          obtain ⟨m0, m1, m2⟩ := row_facts (heap_new1 w1 (.cells #[.int .i64 r.kind, .int .i64 r.num, .int .i64 r.den, .string r.text, .slice none 0 0] 34))
          refine ⟨⟨Nat.lt_trans z1 (by simp), m2⟩, ?_, m0 0, m0 1, m0 2, m0 3, m0 4⟩
          rw [World.cell?_alloc_lt _ _ _ (by exact z1)]
          exact c1 3
        rw [← hW0]
        clear hW0 c1 f1 k1
        have hS' := hS
        obtain ⟨_, s3, q0, q1, q2, q3, q4⟩ := hS'
        first
          | go_region_held3 (fun w' => ((w.heap.size < w'.heap.size ∧ w1.heap.size < w'.heap.size) ∧ w'.cell? ⟨w.heap.size, 3, none⟩ = some (.string s) ∧ w'.cell? ⟨w1.heap.size, 0, none⟩ = some (.int .i64 r.kind) ∧ w'.cell? ⟨w1.heap.size, 1, none⟩ = some (.int .i64 r.num) ∧ w'.cell? ⟨w1.heap.size, 2, none⟩ = some (.int .i64 r.den) ∧ w'.cell? ⟨w1.heap.size, 3, none⟩ = some (.string r.text) ∧ w'.cell? ⟨w1.heap.size, 4, none⟩ = some (.slice none 0 0)))
              (first | exact hS | exact keepN (by assumption) (by assumption) | go_keep)
              (first
                | (go_at_call 164; refine (HL.out _).mono ?_; rintro e w2 ⟨rfl, hb2⟩)
                | (go_at_call 171; refine (HW.out _).mono ?_; rintro e w3 ⟨rfl, hb3⟩)
                | (go_at_call 226; refine (HP.out _).mono ?_; rintro e w4 ⟨rfl, hb4⟩)
                | (go_at_call 227; refine (HAB.out _).mono ?_; rintro e w5 ⟨rfl, rfl⟩))
          | fail
        all_goals
          go_wp2
          go_ret
          exact ⟨rfl, pb0.drew.trans ((hb2.mono pb0.size).trans ((hb3.mono (Nat.le_trans pb0.size hb2.size)).trans (hb4.mono (Nat.le_trans pb0.size (Nat.le_trans hb2.size hb3.size)))))⟩

      · have t1 : (t == s) = false := by
          cases h : t == s
          · rfl
          · exact absurd ((Go.MapKept.bytes_beq _ _).1 h) ht
        have t2 : (t.toList == s.toList) = false := by rw [← Go.beq_toListBytes]; exact t1
        refine ⟨false, fun w => ?_⟩
        clear hc hk hok hw hP b1 b2
        go_enter Tryz.func146, Tryz.ntmps146
        go_wp2_with (go_at_call 218; refine (HRD.out _).mono ?_; rintro e w1 ⟨rfl, hb1⟩; obtain ⟨c1, f1, z1, k1⟩ := box_cells (heap_new1 w _) hb1)
        have pb1 := below_one hb1
        obtain ⟨W0, hW0⟩ : ∃ W0 : World, W0 = w1.alloc (.cells #[.int .i64 r.kind, .int .i64 r.num, .int .i64 r.den, .string r.text, .slice none 0 0] 34) := ⟨_, rfl⟩
        have pb0 : Below w.heap.size w W0 := by rw [hW0]; exact pb1.alloc pb1.size _
        have hS : ((w.heap.size < W0.heap.size ∧ w1.heap.size < W0.heap.size) ∧ W0.cell? ⟨w.heap.size, 3, none⟩ = some (.string s) ∧ W0.cell? ⟨w1.heap.size, 0, none⟩ = some (.int .i64 r.kind) ∧ W0.cell? ⟨w1.heap.size, 1, none⟩ = some (.int .i64 r.num) ∧ W0.cell? ⟨w1.heap.size, 2, none⟩ = some (.int .i64 r.den) ∧ W0.cell? ⟨w1.heap.size, 3, none⟩ = some (.string r.text) ∧ W0.cell? ⟨w1.heap.size, 4, none⟩ = some (.slice none 0 0)) := by
          rw [hW0]
          obtain ⟨m0, m1, m2⟩ := row_facts (heap_new1 w1 (.cells #[.int .i64 r.kind, .int .i64 r.num, .int .i64 r.den, .string r.text, .slice none 0 0] 34))
          refine ⟨⟨Nat.lt_trans z1 (by simp), m2⟩, ?_, m0 0, m0 1, m0 2, m0 3, m0 4⟩
          rw [World.cell?_alloc_lt _ _ _ (by exact z1)]
          exact c1 3
        rw [← hW0]
        clear hW0 c1 f1 k1
        have hS' := hS
        obtain ⟨_, s3, q0, q1, q2, q3, q4⟩ := hS'
        first
          | go_region_with
              (first
                | (go_at_call 164; refine (HL.out _).mono ?_; rintro e w2 ⟨rfl, hb2⟩; have hS2 := keepN (W := W0.drew) hb2 hS; clear s3 q0 q1 q2 q3 q4; have hS2' := hS2; obtain ⟨_, s3, q0, q1, q2, q3, q4⟩ := hS2')
                | (go_at_call 171; refine (HW.out _).mono ?_; rintro e w3 ⟨rfl, hb3⟩; have hS3 := keepN hb3 hS2; clear s3 q0 q1 q2 q3 q4; have hS3' := hS3; obtain ⟨_, s3, q0, q1, q2, q3, q4⟩ := hS3')
                | (go_at_call 226; refine (HP.out _).mono ?_; rintro e w4 ⟨rfl, hb4⟩; have hS4 := keepN hb4 hS3; clear s3 q0 q1 q2 q3 q4; have hS4' := hS4; obtain ⟨_, s3, q0, q1, q2, q3, q4⟩ := hS4'))
          | fail
        all_goals
          go_wp2
          go_ret
          exact ⟨rfl, pb0.drew.trans ((hb2.mono pb0.size).trans ((hb3.mono (Nat.le_trans pb0.size hb2.size)).trans (hb4.mono (Nat.le_trans pb0.size (Nat.le_trans hb2.size hb3.size)))))⟩

    · have hc' : (r.kind == 1 && r.den == 1) = false := by simpa using hc
      rw [hc'] at HW
      refine ⟨false, fun w => ?_⟩
      clear hc hc' hok hw
      go_enter Tryz.func146, Tryz.ntmps146
      go_wp2_with (go_at_call 218; refine (HRD.out _).mono ?_; rintro e w1 ⟨rfl, hb1⟩; obtain ⟨c1, f1, z1, k1⟩ := box_cells (heap_new1 w _) hb1)
      have pb1 := below_one hb1
      obtain ⟨W0, hW0⟩ : ∃ W0 : World, W0 = w1.alloc (.cells #[.int .i64 r.kind, .int .i64 r.num, .int .i64 r.den, .string r.text, .slice none 0 0] 34) := ⟨_, rfl⟩
      have pb0 : Below w.heap.size w W0 := by rw [hW0]; exact pb1.alloc pb1.size _
      have hS : ((w.heap.size < W0.heap.size ∧ w1.heap.size < W0.heap.size) ∧ W0.cell? ⟨w.heap.size, 3, none⟩ = some (.string s) ∧ W0.cell? ⟨w1.heap.size, 0, none⟩ = some (.int .i64 r.kind) ∧ W0.cell? ⟨w1.heap.size, 1, none⟩ = some (.int .i64 r.num) ∧ W0.cell? ⟨w1.heap.size, 2, none⟩ = some (.int .i64 r.den) ∧ W0.cell? ⟨w1.heap.size, 3, none⟩ = some (.string r.text) ∧ W0.cell? ⟨w1.heap.size, 4, none⟩ = some (.slice none 0 0)) := by
        rw [hW0]
        obtain ⟨m0, m1, m2⟩ := row_facts (heap_new1 w1 (.cells #[.int .i64 r.kind, .int .i64 r.num, .int .i64 r.den, .string r.text, .slice none 0 0] 34))
        refine ⟨⟨Nat.lt_trans z1 (by simp), m2⟩, ?_, m0 0, m0 1, m0 2, m0 3, m0 4⟩
        rw [World.cell?_alloc_lt _ _ _ (by exact z1)]
        exact c1 3
      rw [← hW0]
      clear hW0 c1 f1 k1
      have hS' := hS
      obtain ⟨_, s3, q0, q1, q2, q3, q4⟩ := hS'
      first
        | go_region_with
            (first
              | (go_at_call 164; refine (HL.out _).mono ?_; rintro e w2 ⟨rfl, hb2⟩; have hS2 := keepN (W := W0.drew) hb2 hS; clear s3 q0 q1 q2 q3 q4; have hS2' := hS2; obtain ⟨_, s3, q0, q1, q2, q3, q4⟩ := hS2')
              | (go_at_call 171; refine (HW.out _).mono ?_; rintro e w3 ⟨rfl, hb3⟩; have hS3 := keepN hb3 hS2; clear s3 q0 q1 q2 q3 q4; have hS3' := hS3; obtain ⟨_, s3, q0, q1, q2, q3, q4⟩ := hS3'))
        | fail
      all_goals
        go_wp2
        go_ret
        exact ⟨rfl, pb0.drew.trans ((hb2.mono pb0.size).trans (hb3.mono (Nat.le_trans pb0.size hb2.size)))⟩

  · exact numeric_letters n d s hs hw
end

/-- 'numeric' of a single value: a truth. -/
theorem numeric_some (x : FV) (hx : x.text.size ≤ 1000000000) :
    ∃ b, ∀ w, Calls Tryz.prog 146 #[.agg #[.int .i64 x.kind, .int .i64 x.num, .int .i64 x.den, .string x.text, .slice none 0 0]] w fun e w' => e = .returned (.bool b) ∧ Below w.heap.size w w' := by
  by_cases h : x.kind = 2
  · rw [h]; exact numeric_text x.num x.den x.text hx
  · exact ⟨_, fun w => numeric_one x w h⟩

/-- 'every(args, numeric)' of single values: a truth. -/
theorem every_some (vs : List FV) (v : Value) (w : World) (hr : Row w w.heap.size 5 v (vs.map FV.list)) (hn : vs.length ≤ 1000000) (hz : ∀ x ∈ vs, x.text.size ≤ 1000000000) :
    Calls Tryz.prog 145 #[v, .func (.func 146) #[] #[]] w fun e w' => (∃ b, e = .returned (.bool b)) ∧ Below w.heap.size w w' := by
  obtain ⟨p, hp⟩ : ∃ p : FV → Bool, ∀ x ∈ vs, ∀ W, Calls Tryz.prog 146 #[.agg #[.int .i64 x.kind, .int .i64 x.num, .int .i64 x.den, .string x.text, .slice none 0 0]] W fun e w' => e = .returned (.bool (p x)) ∧ Below W.heap.size W w' := by
    classical
    refine ⟨fun x => if h : x.text.size ≤ 1000000000 then Classical.choose (numeric_some x h) else false, fun x hx W => ?_⟩
    have h := hz x hx
    simp only [h, dif_pos]
    exact Classical.choose_spec (numeric_some x h) W
  exact (every_flat _ p vs v w hr hn enter_numeric hp).mono fun e w' ⟨he, hb⟩ => ⟨⟨_, he⟩, hb⟩

end Go.Proofs.YtopomonencffkaaGreatDoor
