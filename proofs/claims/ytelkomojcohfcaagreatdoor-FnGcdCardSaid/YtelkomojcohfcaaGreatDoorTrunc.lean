/-
Floats: the difference, the whole part, the sign of another one.
-/
import Derived.Test.YtelkomojcohfcaaGreatDoorFl
namespace Go.Fl
open Ieee

theorem signed_not (t : Bool) (n p : Nat) : signed (!t) n p = -signed t n p := by
  unfold signed
  cases t <;> simp

/-- DIFFERENCE. -/
theorem Is.sub {x y : Nat} {a b : Int} (hx : Is x a) (hy : Is y b) (he : Exact (a - b).natAbs) : ∃ r, double.sub x y = some r ∧ Is r (a - b) := by
  obtain ⟨s, m, p, hr, ha, hp⟩ := hx
  obtain ⟨t, n, q, hr', hb, hq⟩ := hy
  unfold Format.sub
  rw [hr, hr']
  unfold Datum.opposite Datum.sum
  dsimp only
  refine ⟨_, rfl, ?_⟩
  obtain ⟨base, hbase⟩ : ∃ k : Nat, k = min p q := ⟨_, rfl⟩
  have e0 : min (-1074 + (p : Int)) (-1074 + (q : Int)) = -1074 + (base : Int) := by omega
  rw [e0]
  have e1 : (-1074 + (p : Int) - (-1074 + (base : Int))).toNat = p - base := by omega
  have e2 : (-1074 + (q : Int) - (-1074 + (base : Int))).toNat = q - base := by omega
  rw [e1, e2]
  refine Is.write _ _ _ (a - b) (by omega) ?_ he
  have e3 : (-1074 + (base : Int) + 1074).toNat = base := by omega
  have hb' : signed (!t) n q = -b := by rw [signed_not, hb]
  have e4 : a - b = a + -b := by omega
  rw [e3, signed_toInt, e4, ← ha, ← hb', Int.add_mul, ← signed_scale, ← signed_scale]
  · congr 2 <;> omega
  · intro h0
    rw [if_neg h0]

theorem Sx.sub {x y : Nat} {a b : Int} (hx : Sx x a) (hy : Sx y b) (h1 : a - b < 9007199254740992) (h2 : -9007199254740992 < a - b) : ∃ r, double.sub x y = some r ∧ Sx r (a - b) := by
  obtain ⟨r, hr, hs⟩ := Is.sub hx hy (by rw [← Int.sub_mul]; exact exact_T h1 h2)
  exact ⟨r, hr, by unfold Sx; rw [Int.sub_mul]; exact hs⟩

/-- THE WHOLE PART. -/
theorem Is.integral {x : Nat} {a : Int} (h : Is x a) (h1 : a.tdiv (U : Nat) < 9007199254740992) (h2 : -9007199254740992 < a.tdiv (U : Nat)) : Is (double.write ((double.read x).integral .zero)) (a.tdiv (U : Nat) * (U : Nat)) := by
  have ht := Is.trunc h
  obtain ⟨s, m, p, hr, ha, hp⟩ := h
  rw [hr] at ht ⊢
  unfold Datum.toInt at ht
  unfold Datum.integral at ht ⊢
  dsimp only at ht ⊢
  generalize Toward.zero.cut s (m <<< (-1074 + (p : Int)).toNat) (-(-1074 + (p : Int))).toNat = C at *
  injection ht with ht
  refine Is.write s C 0 _ (by omega) ?_ (exact_U h1 h2)
  have e : ((0 : Int) + 1074).toNat = 0 + E74 := by rw [E74_eq]; decide
  rw [e, signed_scale, ht, U_def]

theorem Sx.integral {x : Nat} {m : Int} (h : Sx x m) (h1 : m < 9007199254740992) (h2 : -9007199254740992 < m) : Sx (double.write ((double.read x).integral .zero)) (16 * m.tdiv 16) := by
  have hd : (m * (T : Int)).tdiv (U : Nat) = m.tdiv 16 := by
    rw [U_eq, Int.natCast_mul, Int.mul_comm m, Int.mul_comm ((16 : Nat) : Int)]
    exact Int.mul_tdiv_mul_of_pos _ _ T_posI
  have hb : m.tdiv 16 < 9007199254740992 ∧ -9007199254740992 < m.tdiv 16 := by
    have := Int.natAbs_tdiv_le_natAbs m 16
    omega
  have q := Is.integral h (by rw [hd]; exact hb.1) (by rw [hd]; exact hb.2)
  rw [hd] at q
  unfold Sx
  have e : 16 * m.tdiv 16 * (T : Int) = m.tdiv 16 * (U : Nat) := by
    rw [U_eq, Int.natCast_mul, show ((16 : Nat) : Int) = 16 from rfl]; ac_rfl
  rw [e]
  exact q

theorem read_sign {x : Nat} {s : Bool} {m : Nat} {i : Int} (h : double.read x = .number s m i) : s = (x / double.signWeight % 2 == 1) := by
  unfold Format.read at h
  dsimp only at h
  split at h
  · injection h with h; exact h.symm
  · split at h
    · injection h with h; exact h.symm
    · split at h <;> cases h

theorem read_resign {x z : Nat} {s : Bool} {m : Nat} {i : Int} (h : double.read x = .number s m i) (h1 : z % double.signWeight = x % double.signWeight) : double.read z = .number (z / double.signWeight % 2 == 1) m i := by
  unfold Format.read at h ⊢
  dsimp only at h ⊢
  rw [h1]
  by_cases hc : x % double.signWeight < double.binade
  · rw [if_pos hc] at h ⊢
    injection h with _ h3 h4
    rw [h3, h4]
  · rw [if_neg hc] at h ⊢
    by_cases hd : x % double.signWeight < double.infRung
    · rw [if_pos hd] at h ⊢
      injection h with _ h3 h4
      rw [h3, h4]
    · rw [if_neg hd] at h
      split at h <;> cases h

theorem Is.neg_iff {x : Nat} {a : Int} (h : Is x a) (h0 : a ≠ 0) : (x / double.signWeight % 2 == 1) = decide (a < 0) := by
  obtain ⟨s, m, p, hr, ha, hp⟩ := h
  rw [← read_sign hr]
  unfold signed at ha
  have : 0 ≤ m <<< p := Nat.zero_le _
  cases s
  · rw [if_neg (by simp)] at ha
    have : ¬ a < 0 := by omega
    simp [this]
  · rw [if_pos rfl] at ha
    have : a < 0 := by omega
    simp [this]

/-- The sign of another one, where that changes nothing. -/
theorem Is.resign {u x z : Nat} {c a : Int} (hu : Is u c) (hx : Is x a) (h1 : z % double.signWeight = u % double.signWeight) (h2 : z / double.signWeight % 2 = x / double.signWeight % 2) (hs : c ≠ 0 → a ≠ 0 ∧ (c < 0 ↔ a < 0)) : Is z c := by
  have hu' := hu
  obtain ⟨s, m, p, hr, hc, hp⟩ := hu
  refine ⟨_, m, p, read_resign hr h1, ?_, hp⟩
  by_cases h0 : c = 0
  · subst h0
    have hm : m <<< p = 0 := by
      unfold signed at hc
      cases s
      · rw [if_neg (by simp)] at hc; omega
      · rw [if_pos rfl] at hc; omega
    unfold signed
    rw [hm]
    split <;> rfl
  · obtain ⟨ha0, hiff⟩ := hs h0
    have e1 := Is.neg_iff hx ha0
    have e2 := Is.neg_iff hu' h0
    have e3 : (z / double.signWeight % 2 == 1) = s := by
      rw [h2, e1, read_sign hr, e2]
      by_cases h : a < 0
      · simp [h, hiff.2 h]
      · have h' : ¬ c < 0 := fun q => h (hiff.1 q)
        rw [decide_eq_false h, decide_eq_false h']
    rw [e3]
    exact hc

theorem Sx.resign {u x z : Nat} {c m : Int} (hu : Sx u c) (hx : Sx x m) (h1 : z % 9223372036854775808 = u % 9223372036854775808) (h2 : z / 9223372036854775808 % 2 = x / 9223372036854775808 % 2) (hs : c ≠ 0 → m ≠ 0 ∧ (c < 0 ↔ m < 0)) : Sx z c := by
  have hw : double.signWeight = 9223372036854775808 := by rw [double_signWeight]
  have hT := T_posI
  refine Is.resign hu hx (by rw [hw]; exact h1) (by rw [hw]; exact h2) fun h0 => ?_
  have hc : c ≠ 0 := by rintro rfl; simp at h0
  obtain ⟨hm, hiff⟩ := hs hc
  have k : ∀ n : Int, n * (T : Int) < 0 ↔ n < 0 := fun n => ⟨fun h => by
    rcases (by omega : n < 0 ∨ 0 ≤ n) with h' | h'
    · exact h'
    · have := Int.mul_nonneg h' (Int.le_of_lt hT); omega, fun h => Int.mul_neg_of_neg_of_pos h hT⟩
  refine ⟨Int.mul_ne_zero hm (by omega), ?_⟩
  rw [k, k]
  exact hiff

/-- The bits of the one without its sign, and the sign bit of the other. -/
theorem sign_bits (u x : Nat) : ∃ z : Nat, ((BitVec.ofInt 64 (u : Int) &&& ~~~ 9223372036854775808#64) ||| (BitVec.ofInt 64 (x : Int) &&& 9223372036854775808#64)).toNat = z ∧ z % 9223372036854775808 = u % 9223372036854775808 ∧ z / 9223372036854775808 % 2 = x / 9223372036854775808 % 2 := by
  refine ⟨_, rfl, ?_, ?_⟩
  · rw [show (9223372036854775808 : Nat) = 2 ^ 63 by decide]
    refine Nat.eq_of_testBit_eq fun i => ?_
    rw [Nat.testBit_mod_two_pow, Nat.testBit_mod_two_pow]
    by_cases hi : i < 63
    · rw [BitVec.testBit_toNat, BitVec.getLsbD_or, BitVec.getLsbD_and, BitVec.getLsbD_and, BitVec.getLsbD_not, BitVec.ofInt_natCast, BitVec.ofInt_natCast, BitVec.getLsbD_ofNat, BitVec.getLsbD_ofNat, BitVec.getLsbD_ofNat]
      have h2 : Nat.testBit 9223372036854775808 i = false := by
        rw [show (9223372036854775808 : Nat) = 2 ^ 63 by decide, Nat.testBit_two_pow]
        simp; omega
      have h64 : i < 64 := by omega
      simp [hi, h64, h2]
    · simp [hi]
  · have h : ∀ y : Nat, y / 9223372036854775808 % 2 = (y.testBit 63).toNat := fun y => by
      rw [Nat.testBit_eq_decide_div_mod_eq, show (2 : Nat) ^ 63 = 9223372036854775808 by decide]
      rcases Nat.mod_two_eq_zero_or_one (y / 9223372036854775808) with e | e <;> rw [e] <;> rfl
    rw [h, h]
    congr 1
    rw [BitVec.testBit_toNat, BitVec.getLsbD_or, BitVec.getLsbD_and, BitVec.getLsbD_and, BitVec.getLsbD_not, BitVec.ofInt_natCast, BitVec.ofInt_natCast, BitVec.getLsbD_ofNat, BitVec.getLsbD_ofNat, BitVec.getLsbD_ofNat]
    have h2 : Nat.testBit 9223372036854775808 63 = true := by decide
    simp [h2]

end Go.Fl
