/-
Floats as whole numbers: what the words of IEEE double stand for, scaled by 2^1074; exact sums, products, quotients by powers of two, order, conversion from and to whole numbers, for numbers of sixteenths. Plain mathematics over Ieee; no program stands in it.
-/
import Ieee.Arith
namespace Go.Fl
open Ieee

theorem double_leastPlace : double.leastPlace = -1074 := by decide
theorem double_fractionBits : double.fractionBits = 52 := rfl
theorem double_binade : double.binade = 4503599627370496 := by decide
theorem double_infRung : double.infRung = 2047 * 4503599627370496 := by decide
theorem double_signWeight : double.signWeight = 2048 * 4503599627370496 := by decide

/-- Whole numbers are scaled by this. -/
theorem lit_ex (n : Nat) : ∃ k : Nat, k = n := ⟨n, rfl⟩
noncomputable def E74 : Nat := Classical.choose (lit_ex 1074)
theorem E74_eq : E74 = 1074 := Classical.choose_spec (lit_ex 1074)
noncomputable def U : Nat := Classical.choose (lit_ex (2 ^ E74))
theorem U_def : U = 2 ^ E74 := Classical.choose_spec (lit_ex (2 ^ E74))
theorem U_pos : 0 < U := by rw [U_def]; exact Nat.two_pow_pos _
theorem U_split (k : Nat) (h : k ≤ 1074) : U = 2 ^ (1074 - k) * 2 ^ k := by rw [← Nat.pow_add, U_def]; congr 1; have := E74_eq; omega
theorem U_above (p : Nat) (h : 1074 ≤ p) : 2 ^ p = 2 ^ (p - 1074) * U := by rw [U_def, ← Nat.pow_add]; congr 1; have := E74_eq; omega

/-- How many binary digits are cut off. -/
def dg (V : Nat) : Nat := V.log2 - 52

/-- The word of the number 'V * 2 ^ -1074', where it can be written. -/
def ofV (neg : Bool) (V : Nat) : Nat := double.word neg (min (dg V * double.binade + V / 2 ^ dg V) double.infRung)

/-- 'V * 2 ^ -1074' can be written as a double. -/
def Exact (V : Nat) : Prop := 2 ^ dg V ∣ V ∧ dg V ≤ 2045

theorem log2_shift (m k : Nat) (h : m ≠ 0) : (m <<< k).log2 = m.log2 + k := by
  rw [Nat.shiftLeft_eq]
  have h0 : m * 2 ^ k ≠ 0 := Nat.mul_ne_zero h (Nat.ne_of_gt (Nat.two_pow_pos k))
  have e1 := Nat.log2_self_le h
  have e2 := Nat.lt_log2_self (n := m)
  refine (Nat.log2_eq_iff h0).2 ⟨?_, ?_⟩
  · rw [Nat.pow_add]; exact Nat.mul_le_mul_right _ e1
  · rw [show m.log2 + k + 1 = (m.log2 + 1) + k by omega, Nat.pow_add]
    exact Nat.mul_lt_mul_of_pos_right e2 (Nat.two_pow_pos k)

theorem log2_mul_pow (m k : Nat) (h : m ≠ 0) : (m * 2 ^ k).log2 = m.log2 + k := by
  rw [← Nat.shiftLeft_eq]; exact log2_shift m k h

theorem exact_of_small (N k : Nat) (h : N < 2 ^ 53) (hk : k ≤ 2045) : Exact (N * 2 ^ k) := by
  by_cases h0 : N = 0
  · subst h0
    rw [Nat.zero_mul]
    exact ⟨Nat.dvd_zero _, by unfold dg; rw [show Nat.log2 0 = 0 by decide]; omega⟩
  · have e : N.log2 < 53 := (Nat.log2_lt h0).2 h
    have e2 := log2_mul_pow N k h0
    constructor
    · unfold dg; rw [e2]
      exact Nat.dvd_trans (Nat.pow_dvd_pow 2 (by omega)) (Nat.dvd_mul_left _ _)
    · unfold dg; rw [e2]; omega

/-- CUTTING OFF NOUGHTS. -/
theorem cut_exact (way : Toward) (neg : Bool) (n drop : Nat) (h : 2 ^ drop ∣ n) (h0 : n ≠ 0) : way.cut neg n drop = n / 2 ^ drop := by
  have hd : drop ≤ n.log2 := by
    have h1 : 2 ^ drop ≤ n := Nat.le_of_dvd (by omega) h
    exact (Nat.le_log2 h0).2 h1
  have hm : min drop (n.log2 + 2) = drop := by omega
  unfold Toward.cut
  dsimp only
  rw [hm, Nat.shiftLeft_eq, Nat.one_mul]
  have hr : n % 2 ^ drop = 0 := Nat.mod_eq_zero_of_dvd h
  have hp := Nat.two_pow_pos drop
  rw [hr]
  cases way <;> simp

theorem nearest_eq (neg : Bool) (M : Nat) (i : Int) (V : Nat) (h0 : M ≠ 0) (hi : -1074 ≤ i) (hV : V = M * 2 ^ (i + 1074).toNat) (hx : 2 ^ dg V ∣ V) :
    double.nearest neg M i = ofV neg V := by
  unfold Format.nearest
  rw [if_neg h0]
  dsimp only
  rw [double_leastPlace, double_fractionBits]
  obtain ⟨p, hp⟩ : ∃ p : Nat, (i + 1074).toNat = p := ⟨_, rfl⟩
  have hip : i = (p : Int) - 1074 := by omega
  subst hip
  rw [hp] at hV
  have hl : V.log2 = M.log2 + p := by rw [hV]; exact log2_mul_pow M p h0
  have hd : dg V = M.log2 + p - 52 := by unfold dg; rw [hl]
  have hlast : max ((p : Int) - 1074 + (M.log2 : Nat) - ((52 : Nat) : Int)) (-1074) = (dg V : Int) - 1074 := by rw [hd]; omega
  rw [hlast]
  have e1 : (((dg V : Int) - 1074) - (-1074)).toNat = dg V := by omega
  rw [e1]
  have hk : Toward.even.cut neg (M <<< (((p : Int) - 1074) - ((dg V : Int) - 1074)).toNat) (((dg V : Int) - 1074) - ((p : Int) - 1074)).toNat = V / 2 ^ dg V := by
    by_cases hc : dg V ≤ p
    · have a1 : (((p : Int) - 1074) - ((dg V : Int) - 1074)).toNat = p - dg V := by omega
      have a2 : (((dg V : Int) - 1074) - ((p : Int) - 1074)).toNat = 0 := by omega
      rw [a1, a2]
      have hne : M <<< (p - dg V) ≠ 0 := by
        rw [Nat.shiftLeft_eq]; exact Nat.mul_ne_zero h0 (Nat.ne_of_gt (Nat.two_pow_pos _))
      rw [cut_exact _ _ _ 0 (by simp) hne, Nat.pow_zero, Nat.div_one, Nat.shiftLeft_eq, hV]
      have : 2 ^ p = 2 ^ (p - dg V) * 2 ^ dg V := by rw [← Nat.pow_add]; congr 1; omega
      have hq : M * 2 ^ p = M * 2 ^ (p - dg V) * 2 ^ dg V := by rw [this, Nat.mul_assoc]
      rw [← hV]
      have hV2 : V = M * 2 ^ (p - dg V) * 2 ^ dg V := by rw [hV] ; rw [hV] at hq; exact hq
      conv => rhs; lhs; rw [hV2]
      rw [Nat.mul_div_cancel _ (Nat.two_pow_pos _)]
    · have a1 : (((p : Int) - 1074) - ((dg V : Int) - 1074)).toNat = 0 := by omega
      have a2 : (((dg V : Int) - 1074) - ((p : Int) - 1074)).toNat = dg V - p := by omega
      rw [a1, a2, Nat.shiftLeft_zero]
      have hpow : 2 ^ dg V = 2 ^ (dg V - p) * 2 ^ p := by rw [← Nat.pow_add]; congr 1; omega
      have hdv : 2 ^ (dg V - p) ∣ M := by
        have h1 : 2 ^ (dg V - p) * 2 ^ p ∣ M * 2 ^ p := by rw [← hpow, ← hV]; exact hx
        exact Nat.dvd_of_mul_dvd_mul_right (Nat.two_pow_pos p) h1
      rw [cut_exact _ _ _ _ hdv h0]
      rw [hpow]
      conv => rhs; lhs; rw [hV]
      rw [Nat.mul_div_mul_right _ _ (Nat.two_pow_pos p)]
  rw [hk]
  rfl

theorem dg_lo (V : Nat) (h : V ≠ 0) (hd : 0 < dg V) : 4503599627370496 ≤ V / 2 ^ dg V := by
  have h1 := Nat.log2_self_le h
  have h2 : V.log2 = dg V + 52 := by unfold dg at hd ⊢; omega
  rw [h2, Nat.pow_add, Nat.mul_comm] at h1
  have := (Nat.le_div_iff_mul_le (Nat.two_pow_pos (dg V))).2 h1
  simpa using this

theorem dg_hi (V : Nat) : V / 2 ^ dg V < 9007199254740992 := by
  have h1 := Nat.lt_log2_self (n := V)
  have h2 : V.log2 ≤ dg V + 52 := by unfold dg; omega
  have h3 : 2 ^ (V.log2 + 1) ≤ 2 ^ (53 + dg V) := Nat.pow_le_pow_right (by omega) (by omega)
  rw [Nat.pow_add 2 53] at h3
  exact (Nat.div_lt_iff_lt_mul (Nat.two_pow_pos _)).2 (by omega)

theorem read_word (neg : Bool) (r : Nat) (h : r < double.signWeight) : double.word neg r / double.signWeight % 2 = neg.toNat ∧ double.word neg r % double.signWeight = r := by
  have hp : 0 < double.signWeight := by rw [double_signWeight]; omega
  unfold Format.word
  cases neg
  · simp only [Bool.false_eq_true, if_false, Bool.toNat_false]
    rw [Nat.div_eq_of_lt h, Nat.mod_eq_of_lt h]; simp
  · simp only [if_true, Bool.toNat_true]
    rw [Nat.add_div_left _ hp, Nat.div_eq_of_lt h, Nat.add_mod_left, Nat.mod_eq_of_lt h]; simp

/-- WHAT A WRITTEN NUMBER READS AS. -/
theorem read_ofV (neg : Bool) (V : Nat) (h : Exact V) : double.read (ofV neg V) = .number neg (V / 2 ^ dg V) (-1074 + (dg V : Int)) := by
  obtain ⟨hx, hd⟩ := h
  have hhi := dg_hi V
  have hr : dg V * double.binade + V / 2 ^ dg V < double.infRung := by
    rw [double_binade, double_infRung]; omega
  have hmin : min (dg V * double.binade + V / 2 ^ dg V) double.infRung = dg V * double.binade + V / 2 ^ dg V := by omega
  have hs : dg V * double.binade + V / 2 ^ dg V < double.signWeight := by
    rw [double_infRung] at hr; rw [double_signWeight]; omega
  unfold ofV
  rw [hmin]
  obtain ⟨e1, e2⟩ := read_word neg _ hs
  unfold Format.read
  dsimp only
  rw [e1, e2]
  have hn : (neg.toNat == 1) = neg := by cases neg <;> rfl
  rw [hn]
  rw [double_leastPlace]
  by_cases hlo : dg V * double.binade + V / 2 ^ dg V < double.binade
  · rw [if_pos hlo]
    have hd0 : dg V = 0 := by
      rw [double_binade] at hlo
      clear e2 hmin hr hs
      have := Nat.zero_le (V / 2 ^ dg V)
      generalize V / 2 ^ dg V = q at *
      omega
    rw [hd0]; simp
  · rw [if_neg hlo, if_pos hr]
    have hge : 4503599627370496 ≤ V / 2 ^ dg V := by
      by_cases hd0 : dg V = 0
      · rw [double_binade] at hlo; rw [hd0] at hlo ⊢; omega
      · refine dg_lo V ?_ (by omega)
        rintro rfl
        unfold dg at hd0
        rw [show Nat.log2 0 = 0 by decide] at hd0
        omega
    rw [double_binade]
    have m1 : (dg V * 4503599627370496 + V / 2 ^ dg V) % 4503599627370496 = V / 2 ^ dg V - 4503599627370496 := by omega
    have m2 : (dg V * 4503599627370496 + V / 2 ^ dg V) / 4503599627370496 = dg V + 1 := by omega
    rw [m1, m2]
    have m3 : 4503599627370496 + (V / 2 ^ dg V - 4503599627370496) = V / 2 ^ dg V := by omega
    rw [m3]
    simp

/-- The word x stands for the whole number 'a', scaled by 2^1074. -/
def Is (x : Nat) (a : Int) : Prop := ∃ (s : Bool) (m p : Nat), double.read x = .number s m (-1074 + (p : Int)) ∧ signed s m p = a ∧ p ≤ 2045

theorem signed_natAbs (s : Bool) (m p : Nat) : (signed s m p).natAbs = m * 2 ^ p := by
  unfold signed
  rw [Nat.shiftLeft_eq]
  split <;> simp only [Int.natAbs_neg, Int.natAbs_natCast]

theorem Is.ofV (neg : Bool) (V : Nat) (h : Exact V) : Is (ofV neg V) (if neg then -(V : Int) else V) := by
  refine ⟨neg, _, _, read_ofV neg V h, ?_, h.2⟩
  unfold signed
  rw [Nat.shiftLeft_eq, Nat.div_mul_cancel h.1]

/-- The word of a whole number, scaled by 2^1074. -/
def F (a : Int) : Nat := Fl.ofV (decide (a < 0)) a.natAbs

theorem Is.F (a : Int) (h : Exact a.natAbs) : Is (F a) a := by
  have := Is.ofV (decide (a < 0)) a.natAbs h
  unfold Fl.F
  have e : (if decide (a < 0) = true then -(a.natAbs : Int) else (a.natAbs : Int)) = a := by
    by_cases h : a < 0
    · rw [if_pos (by simpa using h)]; omega
    · rw [if_neg (by simpa using h)]; omega
  rwa [e] at this

/-- Writing a number that can be written. -/
theorem write_F (s : Bool) (M : Nat) (i : Int) (a : Int) (hi : -1074 ≤ i) (ha : a = signed s M (i + 1074).toNat) (hx : Exact a.natAbs) (h0 : M ≠ 0) : double.write (.number s M i) = F a := by
  have hn : a.natAbs = M * 2 ^ (i + 1074).toNat := by rw [ha, signed_natAbs]
  show double.nearest s M i = _
  rw [nearest_eq s M i a.natAbs h0 hi hn hx.1]
  unfold F
  congr 1
  have hp : 0 < M * 2 ^ (i + 1074).toNat := Nat.mul_pos (by omega) (Nat.two_pow_pos _)
  unfold signed at ha
  rw [Nat.shiftLeft_eq] at ha
  generalize M * 2 ^ (i + 1074).toNat = V at *
  cases s
  · rw [if_neg (by simp)] at ha
    have : ¬ a < 0 := by omega
    simp [this]
  · rw [if_pos rfl] at ha
    have : a < 0 := by omega
    simp [this]

theorem write_zero (s : Bool) (i : Int) : double.write (.number s 0 i) = double.word s 0 := by
  show double.nearest s 0 i = _
  unfold Format.nearest
  rw [if_pos rfl]

theorem exact_zero : Exact 0 := by
  have := exact_of_small 0 0 (by decide) (by omega)
  simpa using this

theorem dg_zero : dg 0 = 0 := by unfold dg; rw [show Nat.log2 0 = 0 by decide]

theorem ofV_zero (s : Bool) : ofV s 0 = double.word s 0 := by
  unfold ofV
  rw [dg_zero]
  simp

theorem F_zero : F 0 = 0 := by
  unfold F
  rw [show (0 : Int).natAbs = 0 from rfl, ofV_zero]
  rfl

theorem Is.word_zero (s : Bool) : Is (double.word s 0) 0 := by
  have := Is.ofV s 0 exact_zero
  rw [ofV_zero] at this
  simpa using this

/-- Whatever is written and can be written stands for itself. -/
theorem Is.write (s : Bool) (M : Nat) (i : Int) (a : Int) (hi : -1074 ≤ i) (ha : a = signed s M (i + 1074).toNat) (hx : Exact a.natAbs) : Is (double.write (.number s M i)) a := by
  by_cases h0 : M = 0
  · subst h0
    rw [write_zero]
    have : a = 0 := by rw [ha]; unfold signed; simp
    subst this
    exact Is.word_zero s
  · rw [write_F s M i a hi ha hx h0]
    exact Is.F a hx

/-- ORDER. -/
theorem signed_scale (s : Bool) (m p q : Nat) : signed s m (p + q) = signed s m p * (2 ^ q : Nat) := by
  unfold signed
  rw [Nat.shiftLeft_eq, Nat.shiftLeft_eq, Nat.pow_add, ← Nat.mul_assoc]
  split <;> simp [Int.neg_mul]

theorem compare_scale (a b : Int) (k : Nat) : compare (a * (2 ^ k : Nat)) (b * (2 ^ k : Nat)) = compare a b := by
  have hp : (0 : Int) < (2 ^ k : Nat) := by have := Nat.two_pow_pos k; omega
  have hlt : (a * (2 ^ k : Nat) < b * (2 ^ k : Nat)) ↔ a < b := ⟨fun h => Int.lt_of_mul_lt_mul_right h (Int.le_of_lt hp), fun h => Int.mul_lt_mul_of_pos_right h hp⟩
  have heq : (a * (2 ^ k : Nat) = b * (2 ^ k : Nat)) ↔ a = b := ⟨fun h => Int.eq_of_mul_eq_mul_right (by omega) h, fun h => by rw [h]⟩
  simp only [compare, compareOfLessAndEq, hlt, heq]

theorem Is.order {x y : Nat} {a b : Int} (hx : Is x a) (hy : Is y b) : double.order x y = some (compare a b) := by
  obtain ⟨s, m, p, hr, ha, _⟩ := hx
  obtain ⟨t, n, q, hr', hb, _⟩ := hy
  unfold Format.order
  rw [hr, hr']
  unfold Datum.order
  dsimp only
  congr 1
  rcases Nat.le_total p q with h | h
  · have e1 : (-1074 + (p : Int) - min (-1074 + (p : Int)) (-1074 + (q : Int))).toNat = 0 := by omega
    have e2 : (-1074 + (q : Int) - min (-1074 + (p : Int)) (-1074 + (q : Int))).toNat = q - p := by omega
    rw [e1, e2, ← ha, ← hb]
    have k1 : signed s m p = signed s m 0 * (2 ^ p : Nat) := by have := signed_scale s m 0 p; rwa [Nat.zero_add] at this
    have k2 : signed t n q = signed t n (q - p) * (2 ^ p : Nat) := by rw [← signed_scale]; congr 1; omega
    rw [k1, k2, compare_scale]
  · have e1 : (-1074 + (p : Int) - min (-1074 + (p : Int)) (-1074 + (q : Int))).toNat = p - q := by omega
    have e2 : (-1074 + (q : Int) - min (-1074 + (p : Int)) (-1074 + (q : Int))).toNat = 0 := by omega
    rw [e1, e2, ← ha, ← hb]
    have k1 : signed t n q = signed t n 0 * (2 ^ q : Nat) := by have := signed_scale t n 0 q; rwa [Nat.zero_add] at this
    have k2 : signed s m p = signed s m (p - q) * (2 ^ q : Nat) := by rw [← signed_scale]; congr 1; omega
    rw [k1, k2, compare_scale]

/-- SUM. -/
theorem signed_toInt (v : Int) (k : Nat) (b : Bool) (hb : v ≠ 0 → b = decide (v < 0)) : signed b v.natAbs k = v * (2 ^ k : Nat) := by
  unfold signed
  rw [Nat.shiftLeft_eq]
  by_cases h0 : v = 0
  · subst h0; simp
  · rw [hb h0]
    by_cases h : v < 0
    · rw [if_pos (by simpa using h), Int.natCast_mul, ← Int.neg_mul]; congr 1; omega
    · rw [if_neg (by simpa using h), Int.natCast_mul]; congr 1; omega

theorem Is.add {x y : Nat} {a b : Int} (hx : Is x a) (hy : Is y b) (he : Exact (a + b).natAbs) : ∃ r, double.add x y = some r ∧ Is r (a + b) := by
  obtain ⟨s, m, p, hr, ha, hp⟩ := hx
  obtain ⟨t, n, q, hr', hb, hq⟩ := hy
  unfold Format.add
  rw [hr, hr']
  unfold Datum.sum
  dsimp only
  refine ⟨_, rfl, ?_⟩
  obtain ⟨base, hbase⟩ : ∃ k : Nat, k = min p q := ⟨_, rfl⟩
  have e0 : min (-1074 + (p : Int)) (-1074 + (q : Int)) = -1074 + (base : Int) := by omega
  rw [e0]
  have e1 : (-1074 + (p : Int) - (-1074 + (base : Int))).toNat = p - base := by omega
  have e2 : (-1074 + (q : Int) - (-1074 + (base : Int))).toNat = q - base := by omega
  rw [e1, e2]
  refine Is.write _ _ _ (a + b) (by omega) ?_ he
  have e3 : (-1074 + (base : Int) + 1074).toNat = base := by omega
  rw [e3, signed_toInt, ← ha, ← hb, Int.add_mul, ← signed_scale, ← signed_scale]
  · congr 2 <;> omega
  · intro h0
    rw [if_neg h0]

/-- PRODUCT. -/
theorem Is.mul {x y : Nat} {a b c : Int} (hx : Is x a) (hy : Is y b) (hc : c * (U : Nat) = a * b) (he : Exact c.natAbs) : ∃ r, double.mul x y = some r ∧ Is r c := by
  obtain ⟨s, m, p, hr, ha, hp⟩ := hx
  obtain ⟨t, n, q, hr', hb, hq⟩ := hy
  unfold Format.mul
  rw [hr, hr']
  unfold Datum.product
  dsimp only
  refine ⟨_, rfl, ?_⟩
  by_cases hmn : m * n = 0
  · rw [hmn, write_zero]
    have hab : a * b = 0 := by
      rw [← ha, ← hb]
      unfold signed
      rcases Nat.mul_eq_zero.1 hmn with h | h <;> subst h <;> simp
    rw [hab] at hc
    have hc0 : c = 0 := by
      rcases Int.mul_eq_zero.1 hc with h | h
      · exact h
      · exfalso; have := U_pos; omega
    subst hc0
    exact Is.word_zero _
  · -- the place may lie below the least one: then the digits there are noughts
    have hprod : signed (s ^^ t) (m * n) (p + q) = c * (U : Nat) := by
      rw [hc, ← ha, ← hb]
      unfold signed
      simp only [Nat.shiftLeft_eq]
      have hk : ((m * n * 2 ^ (p + q) : Nat) : Int) = ((m * 2 ^ p : Nat) : Int) * ((n * 2 ^ q : Nat) : Int) := by
        rw [← Int.natCast_mul]; congr 1; rw [Nat.pow_add]; ac_rfl
      cases s <;> cases t <;> simp only [Bool.xor_false, Bool.xor_true, Bool.not_false, Bool.not_true, Bool.false_eq_true, if_true, if_false, hk] <;> simp [Int.neg_mul, Int.mul_neg]
    have hnat : m * n * 2 ^ (p + q) = c.natAbs * U := by
      have h1 := congrArg Int.natAbs hprod
      rw [signed_natAbs, Int.natAbs_mul] at h1
      simpa using h1
    have hsg : (s ^^ t) = decide (c < 0) := by
      have hpos : 0 < m * n * 2 ^ (p + q) := Nat.mul_pos (by omega) (Nat.two_pow_pos _)
      have hp2 : (0 : Int) < (U : Nat) := by have := U_pos; omega
      cases hst : (s ^^ t)
      · rw [hst] at hprod
        unfold signed at hprod
        rw [if_neg (by simp), Nat.shiftLeft_eq] at hprod
        have : ¬ c < 0 := fun h => by
          have := Int.mul_neg_of_neg_of_pos h hp2
          omega
        simp [this]
      · rw [hst] at hprod
        unfold signed at hprod
        rw [if_pos rfl, Nat.shiftLeft_eq] at hprod
        have : c < 0 := by
          rcases Int.lt_or_le c 0 with h | h
          · exact h
          · have := Int.mul_nonneg h (Int.le_of_lt hp2); omega
        simp [this]
    by_cases hge : 1074 ≤ p + q
    · refine Is.write _ _ _ c (by omega) ?_ he
      have e3 : (-1074 + (p : Int) + (-1074 + (q : Int)) + 1074).toNat = p + q - 1074 := by omega
      rw [e3]
      have hs2 := signed_scale (s ^^ t) (m * n) (p + q - 1074) E74
      rw [show p + q - 1074 + E74 = p + q by have := E74_eq; omega, ← U_def, hprod] at hs2
      exact Int.eq_of_mul_eq_mul_right (a := (U : Nat)) (by have := U_pos; omega) hs2
    · -- below: m * n = c * 2 ^ (1074 - p - q)
      have hmn2 : m * n = c.natAbs * 2 ^ (1074 - (p + q)) := by
        rw [U_split (p + q) (by omega), ← Nat.mul_assoc] at hnat
        exact Nat.eq_of_mul_eq_mul_right (Nat.two_pow_pos _) hnat
      have hc0 : c.natAbs ≠ 0 := by intro h; rw [h, Nat.zero_mul] at hmn2; exact hmn hmn2
      obtain ⟨D, hD⟩ : ∃ D : Nat, D = 1074 - (p + q) := ⟨_, rfl⟩
      rw [← hD] at hmn2
      have hw : double.write (.number (s ^^ t) (m * n) (-1074 + (p : Int) + (-1074 + (q : Int)))) = Fl.F c := by
        show double.nearest _ _ _ = _
        unfold Format.nearest
        rw [if_neg hmn]
        dsimp only
        rw [double_leastPlace, double_fractionBits]
        have hl : (m * n).log2 = c.natAbs.log2 + D := by rw [hmn2]; exact log2_mul_pow _ _ hc0
        have hlast : max (-1074 + (p : Int) + (-1074 + (q : Int)) + ((m * n).log2 : Nat) - ((52 : Nat) : Int)) (-1074) = (dg c.natAbs : Int) - 1074 := by
          rw [hl]; unfold dg; omega
        rw [hlast]
        have a0 : ((dg c.natAbs : Int) - 1074 - (-1074)).toNat = dg c.natAbs := by omega
        have a1 : (-1074 + (p : Int) + (-1074 + (q : Int)) - ((dg c.natAbs : Int) - 1074)).toNat = 0 := by omega
        have a2 : ((dg c.natAbs : Int) - 1074 - (-1074 + (p : Int) + (-1074 + (q : Int)))).toNat = dg c.natAbs + D := by omega
        rw [a0, a1, a2, Nat.shiftLeft_zero]
        have hdv : 2 ^ (dg c.natAbs + D) ∣ m * n := by
          rw [hmn2, Nat.pow_add]; exact Nat.mul_dvd_mul_right he.1 _
        rw [cut_exact _ _ _ _ hdv hmn]
        have hq2 : m * n / 2 ^ (dg c.natAbs + D) = c.natAbs / 2 ^ dg c.natAbs := by
          rw [hmn2, Nat.pow_add, Nat.mul_div_mul_right _ _ (Nat.two_pow_pos D)]
        rw [hq2, hsg]
        rfl
      rw [hw]
      exact Is.F c he

/-- TO A WHOLE NUMBER, TOWARDS ZERO. -/
theorem cut_zero (s : Bool) (n drop : Nat) : Toward.zero.cut s n drop = n / 2 ^ drop := by
  unfold Toward.cut
  dsimp only
  rw [Nat.shiftLeft_eq, Nat.one_mul]
  simp only [Bool.toNat_false, Nat.add_zero]
  rcases Nat.le_total drop (n.log2 + 2) with h | h
  · rw [Nat.min_eq_left h]
  · rw [Nat.min_eq_right h]
    have h1 := Nat.lt_log2_self (n := n)
    have h2 : 2 ^ (n.log2 + 1) ≤ 2 ^ (n.log2 + 2) := Nat.pow_le_pow_right (by omega) (by omega)
    have h3 : 2 ^ (n.log2 + 2) ≤ 2 ^ drop := Nat.pow_le_pow_right (by omega) h
    rw [Nat.div_eq_of_lt (by omega), Nat.div_eq_of_lt (by omega)]

theorem Is.trunc {x : Nat} {a : Int} (h : Is x a) : (double.read x).toInt .zero = some (a.tdiv (U : Nat)) := by
  obtain ⟨s, m, p, hr, ha, hp⟩ := h
  rw [hr]
  unfold Datum.toInt Datum.integral
  dsimp only
  rw [cut_zero]
  congr 1
  have key : (m <<< (-1074 + (p : Int)).toNat) / 2 ^ (-(-1074 + (p : Int))).toNat = m * 2 ^ p / U := by
    rw [Nat.shiftLeft_eq]
    by_cases hc : 1074 ≤ p
    · have e1 : (-1074 + (p : Int)).toNat = p - 1074 := by omega
      have e2 : (-(-1074 + (p : Int))).toNat = 0 := by omega
      rw [e1, e2, Nat.pow_zero, Nat.div_one]
      rw [U_above p hc, ← Nat.mul_assoc, Nat.mul_div_cancel _ U_pos]
    · have e1 : (-1074 + (p : Int)).toNat = 0 := by omega
      have e2 : (-(-1074 + (p : Int))).toNat = 1074 - p := by omega
      rw [e1, e2, Nat.pow_zero, Nat.mul_one]
      rw [U_split p (by omega), Nat.mul_div_mul_right _ _ (Nat.two_pow_pos p)]
  rw [key, ← ha]
  unfold signed
  rw [Nat.shiftLeft_zero, Nat.shiftLeft_eq]
  generalize m * 2 ^ p = V
  cases s
  · simp only [Bool.false_eq_true, if_false]
    exact Int.ofNat_tdiv V U
  · simp only [if_true]
    rw [Int.neg_tdiv]
    exact congrArg Neg.neg (Int.ofNat_tdiv V U)

/-! ### Numbers of sixteenths -/
noncomputable def E70 : Nat := Classical.choose (lit_ex 1070)
theorem E70_eq : E70 = 1070 := Classical.choose_spec (lit_ex 1070)
/-- The scale of a sixteenth. -/
noncomputable def T : Nat := Classical.choose (lit_ex (2 ^ E70))
theorem T_def : T = 2 ^ E70 := Classical.choose_spec (lit_ex (2 ^ E70))
theorem T_pos : 0 < T := by rw [T_def]; exact Nat.two_pow_pos _
theorem U_eq : U = 16 * T := by
  rw [U_def, T_def, show (16 : Nat) = 2 ^ 4 from rfl, ← Nat.pow_add]
  congr 1
  have := E70_eq
  have := E74_eq
  omega
theorem T_posI : (0 : Int) < (T : Int) := by have := T_pos; omega

theorem natAbs_lt {m : Int} (h1 : m < 9007199254740992) (h2 : -9007199254740992 < m) : m.natAbs < 2 ^ 53 := by
  have : (2 : Nat) ^ 53 = 9007199254740992 := by decide
  omega
theorem exact_T {m : Int} (h1 : m < 9007199254740992) (h2 : -9007199254740992 < m) : Exact (m * (T : Int)).natAbs := by
  rw [Int.natAbs_mul, Int.natAbs_natCast, T_def]
  exact exact_of_small _ _ (natAbs_lt h1 h2) (by have := E70_eq; omega)
theorem exact_U {m : Int} (h1 : m < 9007199254740992) (h2 : -9007199254740992 < m) : Exact (m * (U : Int)).natAbs := by
  rw [Int.natAbs_mul, Int.natAbs_natCast, U_def]
  exact exact_of_small _ _ (natAbs_lt h1 h2) (by have := E74_eq; omega)

/-- The word x stands for m sixteenths. -/
def Sx (x : Nat) (m : Int) : Prop := Is x (m * (T : Int))
/-- The word of m sixteenths. -/
noncomputable def sx (m : Int) : Nat := F (m * (T : Int))
theorem Sx.sx {m : Int} (h1 : m < 9007199254740992) (h2 : -9007199254740992 < m) : Sx (sx m) m := Is.F _ (exact_T h1 h2)
theorem sx_zero : sx 0 = 0 := by unfold sx; rw [Int.zero_mul]; exact F_zero

theorem compare_T (a b : Int) : compare (a * (T : Int)) (b * (T : Int)) = compare a b := by rw [T_def]; exact compare_scale a b E70
theorem Sx.order {x y : Nat} {a b : Int} (hx : Sx x a) (hy : Sx y b) : double.order x y = some (compare a b) := by
  rw [← compare_T]; exact Is.order hx hy
theorem Sx.eq_ {x y : Nat} {a b : Int} (hx : Sx x a) (hy : Sx y b) : (double.order x y == some .eq) = decide (a = b) := by
  rw [hx.order hy]
  rcases Int.lt_trichotomy a b with h | h | h
  · simp [compare, compareOfLessAndEq, h, Int.ne_of_lt h]
  · subst h; simp [compare, compareOfLessAndEq]
  · have h1 : ¬ a < b := by omega
    have h2 : ¬ a = b := by omega
    simp [compare, compareOfLessAndEq, h1, h2]
theorem Sx.ne_ {x y : Nat} {a b : Int} (hx : Sx x a) (hy : Sx y b) : (double.order x y != some .eq) = decide (a ≠ b) := by
  rw [bne, hx.eq_ hy]; by_cases h : a = b <;> simp [h]
theorem Sx.lt_ {x y : Nat} {a b : Int} (hx : Sx x a) (hy : Sx y b) : (double.order x y == some .lt) = decide (a < b) := by
  rw [hx.order hy]
  rcases Int.lt_trichotomy a b with h | h | h
  · simp [compare, compareOfLessAndEq, h]
  · subst h; simp [compare, compareOfLessAndEq]
  · have h1 : ¬ a < b := by omega
    have h2 : ¬ a = b := by omega
    simp [compare, compareOfLessAndEq, h1, h2]
theorem Sx.gt_ {x y : Nat} {a b : Int} (hx : Sx x a) (hy : Sx y b) : (double.order x y == some .gt) = decide (b < a) := by
  rw [hx.order hy]
  rcases Int.lt_trichotomy a b with h | h | h
  · have h1 : ¬ b < a := by omega
    simp [compare, compareOfLessAndEq, h, h1]
  · subst h; simp [compare, compareOfLessAndEq]
  · have h1 : ¬ a < b := by omega
    have h2 : ¬ a = b := by omega
    simp [compare, compareOfLessAndEq, h1, h2, h]
theorem Sx.add {x y : Nat} {a b : Int} (hx : Sx x a) (hy : Sx y b) (h1 : a + b < 9007199254740992) (h2 : -9007199254740992 < a + b) : ∃ r, double.add x y = some r ∧ Sx r (a + b) := by
  obtain ⟨r, hr, hs⟩ := Is.add hx hy (by rw [← Int.add_mul]; exact exact_T h1 h2)
  exact ⟨r, hr, by unfold Sx; rw [Int.add_mul]; exact hs⟩
theorem Sx.mul {x y : Nat} {a b c : Int} (hx : Sx x a) (hy : Sx y b) (hc : c * 16 = a * b) (h1 : c < 9007199254740992) (h2 : -9007199254740992 < c) : ∃ r, double.mul x y = some r ∧ Sx r c := by
  refine Is.mul hx hy ?_ (exact_T h1 h2)
  rw [U_eq, Int.natCast_mul]
  have : c * (T : Int) * (((16 : Nat) : Int) * (T : Int)) = (c * 16) * ((T : Int) * (T : Int)) := by
    rw [show ((16 : Nat) : Int) = 16 from rfl]; ac_rfl
  rw [this, hc]
  ac_rfl
theorem Sx.trunc {x : Nat} {a : Int} (h : Sx x a) : (double.read x).toInt .zero = some (a.tdiv 16) := by
  rw [Is.trunc h, U_eq]
  congr 1
  rw [Int.natCast_mul, Int.mul_comm a, Int.mul_comm ((16 : Nat) : Int)]
  exact Int.mul_tdiv_mul_of_pos _ _ T_posI

/-- 'float64(n)'. -/
theorem ofInt_sx (n : Int) (h1 : n < 9007199254740992) (h2 : -9007199254740992 < n) : double.write (.number (decide (n < 0)) n.natAbs 0) = sx (16 * n) := by
  have ha : 16 * n * (T : Int) = n * (U : Int) := by rw [U_eq, Int.natCast_mul, show ((16 : Nat) : Int) = 16 from rfl]; ac_rfl
  unfold sx
  rw [ha]
  by_cases h0 : n = 0
  · subst h0
    rw [Int.zero_mul, F_zero]
    exact write_zero _ _
  · refine write_F _ _ 0 _ (by omega) ?_ (exact_U h1 h2) (by omega)
    rw [show ((0 : Int) + 1074).toNat = E74 by have := E74_eq; omega, U_def]
    exact (signed_toInt n E74 _ (fun _ => rfl)).symm

/-- The word of a power of two reads plainly. -/
theorem read_pow (k : Nat) (hk : k ≤ 4) : double.read (sx (16 * 2 ^ k)) = .number false 4503599627370496 ((k : Int) - 52) := by
  obtain ⟨K, hK⟩ : ∃ K : Nat, K = k + 1074 := ⟨_, rfl⟩
  have ha : (16 * 2 ^ k : Int) * (T : Int) = ((2 ^ K : Nat) : Int) := by
    have : (2 ^ K : Nat) = 16 * 2 ^ k * T := by
      rw [T_def, show (16 : Nat) = 2 ^ 4 from rfl, ← Nat.pow_add, ← Nat.pow_add]
      congr 1
      have := E70_eq
      omega
    rw [this]
    simp
  unfold sx F
  rw [ha]
  have hn : decide (((2 ^ K : Nat) : Int) < 0) = false := by
    have := Nat.two_pow_pos K
    simp only [decide_eq_false_iff_not]
    omega
  rw [hn, Int.natAbs_natCast]
  have hl : (2 ^ K).log2 = K := Nat.log2_two_pow
  obtain ⟨D, hD⟩ : ∃ D : Nat, D = k + 1022 := ⟨_, rfl⟩
  have hd : dg (2 ^ K) = D := by unfold dg; rw [hl]; omega
  have he : Exact (2 ^ K) := by
    have := exact_of_small 1 K (by decide) (by omega)
    rwa [Nat.one_mul] at this
  rw [read_ofV _ _ he, hd]
  have hq : 2 ^ K / 2 ^ D = 4503599627370496 := by
    rw [show K = 52 + D by omega, Nat.pow_add, Nat.mul_div_cancel _ (Nat.two_pow_pos _)]
  rw [hq]
  congr 1
  omega

theorem read_zero : double.read 0 = .number false 0 (-1074) := by decide

/-- 'float64(n) / float64(d)', d a power of two up to 16. -/
theorem div_sx (n : Int) (k : Nat) (hk : k ≤ 4) (h1 : n < 562949953421312) (h2 : -562949953421312 < n) :
    double.div (sx (16 * n)) (sx (16 * 2 ^ k)) = some (sx (n * 2 ^ (4 - k))) := by
  unfold Format.div
  rw [read_pow k hk]
  have hfb : double.fractionBits + 2 = 54 := rfl
  have hlg : Nat.log2 4503599627370496 = 52 := by decide
  by_cases h0 : n = 0
  · subst h0
    rw [Int.mul_zero, Int.zero_mul, sx_zero, read_zero]
    unfold Datum.quotient
    dsimp only
    rw [if_neg (by decide)]
    simp only [Option.map_some]
    congr 1
  · have hx := Is.F (16 * n * (T : Int)) (exact_T (m := 16 * n) (by omega) (by omega))
    obtain ⟨V, hV⟩ : ∃ V, V = (16 * n * (T : Int)).natAbs := ⟨_, rfl⟩
    have hex : Exact V := by rw [hV]; exact exact_T (m := 16 * n) (by omega) (by omega)
    have hV0 : V ≠ 0 := by
      rw [hV]
      have := T_pos
      have h3 : 16 * n * (T : Int) ≠ 0 := Int.mul_ne_zero (by omega) (by omega)
      omega
    have hrd : double.read (sx (16 * n)) = .number (decide (n < 0)) (V / 2 ^ dg V) (-1074 + (dg V : Int)) := by
      unfold sx F
      rw [← hV, read_ofV _ _ hex]
      congr 1
      have hT := T_posI
      by_cases hn : n < 0
      · have := Int.mul_neg_of_neg_of_pos (show 16 * n < 0 by omega) hT
        simp [hn, this]
      · have := Int.mul_nonneg (show 0 ≤ 16 * n by omega) (Int.le_of_lt hT)
        have h4 : ¬ 16 * n * (T : Int) < 0 := by omega
        simp [hn, h4]
    rw [hrd]
    obtain ⟨m, hm⟩ : ∃ m, m = V / 2 ^ dg V := ⟨_, rfl⟩
    have hlV : V = n.natAbs * 2 ^ E74 := by
      rw [hV, show (16 * n : Int) = n * 16 by omega, Int.mul_assoc, show ((16 : Int) * (T : Int)) = (U : Int) by rw [U_eq, Int.natCast_mul]; rfl, Int.natAbs_mul, Int.natAbs_natCast, U_def]
    have hlog : V.log2 = n.natAbs.log2 + 1074 := by rw [hlV, log2_mul_pow _ _ (by omega), E74_eq]
    have hdg : 1022 ≤ dg V := by unfold dg; omega
    have hmV : m * 2 ^ dg V = V := by rw [hm]; exact Nat.div_mul_cancel hex.1
    have hm1 := dg_lo V hV0 (by omega)
    have hm2 := dg_hi V
    rw [← hm] at hm1 hm2 ⊢
    have hm0 : m ≠ 0 := by omega
    have hml : m.log2 = 52 := by
      refine (Nat.log2_eq_iff hm0).2 ⟨?_, ?_⟩
      · rw [show (2 : Nat) ^ 52 = 4503599627370496 by decide]; omega
      · rw [show (2 : Nat) ^ (52 + 1) = 9007199254740992 by decide]; omega
    unfold Datum.quotient
    dsimp only
    rw [if_neg (by decide), hfb, hlg, hml]
    simp only [Option.map_some]
    have hdv : m <<< (54 + 52 - 52) = m * 4 * 4503599627370496 := by
      rw [Nat.shiftLeft_eq, show (2 : Nat) ^ (54 + 52 - 52) = 4 * 4503599627370496 by decide, Nat.mul_assoc]
    rw [hdv, Nat.mul_div_cancel _ (by decide), Nat.mul_mod_left]
    have h8 : 2 * (m * 4) + ((0 : Nat) != 0).toNat = m * 8 := by simp; omega
    rw [h8, Bool.xor_false]
    unfold sx
    obtain ⟨D, hD⟩ : ∃ D : Nat, dg V = D + 3 + k := ⟨dg V - 3 - k, by omega⟩
    refine congrArg some (write_F (decide (n < 0)) (m * 8) (-1074 + (dg V : Int) - ((k : Int) - 52) - ((54 + 52 - 52 : Nat) : Int) - 1) (n * 2 ^ (4 - k) * (T : Int)) (by omega) ?_ ?_ (by omega))
    · rw [show (-1074 + (dg V : Int) - ((k : Int) - 52) - ((54 + 52 - 52 : Nat) : Int) - 1 + 1074).toNat = D by omega]
      have hT := T_posI
      have hval : m * 8 * 2 ^ D = n.natAbs * 2 ^ (4 - k) * T := by
        have e1 : m * 8 * 2 ^ D * 2 ^ k = n.natAbs * 2 ^ (4 - k) * T * 2 ^ k := by
          have l1 : m * 8 * 2 ^ D * 2 ^ k = m * 2 ^ dg V := by
            rw [hD, show (8 : Nat) = 2 ^ 3 from rfl, Nat.pow_add, Nat.pow_add]; ac_rfl
          have l2 : n.natAbs * 2 ^ (4 - k) * T * 2 ^ k = n.natAbs * (16 * T) := by
            have : (16 : Nat) = 2 ^ (4 - k) * 2 ^ k := by rw [← Nat.pow_add, show 4 - k + k = 4 by omega]
            rw [this]; ac_rfl
          rw [l1, hmV, l2, ← U_eq, hlV, U_def]
        exact Nat.eq_of_mul_eq_mul_right (Nat.two_pow_pos k) e1
      unfold signed
      rw [Nat.shiftLeft_eq, hval]
      by_cases hn : n < 0
      · rw [if_pos (by simpa using hn)]
        rw [show n = -(n.natAbs : Int) by omega]
        simp [Int.neg_mul]
      · rw [if_neg (by simpa using hn)]
        rw [show n = (n.natAbs : Int) by omega]
        simp
    · have hb : ∀ j, j ≤ 4 → n * 2 ^ j < 9007199254740992 ∧ -9007199254740992 < n * 2 ^ j := by
        intro j hj
        rcases (show j = 0 ∨ j = 1 ∨ j = 2 ∨ j = 3 ∨ j = 4 by omega) with rfl | rfl | rfl | rfl | rfl <;> omega
      exact exact_T (hb (4 - k) (by omega)).1 (hb (4 - k) (by omega)).2

theorem Sx.zero : Sx 0 0 := by
  have := Sx.sx (m := 0) (by omega) (by omega)
  rwa [sx_zero] at this
theorem Sx.one : Sx 4607182418800017408 16 := by
  refine ⟨false, 4503599627370496, 1022, by decide, ?_, by omega⟩
  have h := U_split 1022 (by omega)
  rw [U_eq] at h
  unfold signed
  rw [if_neg (by simp), Nat.shiftLeft_eq]
  have e : (4503599627370496 : Nat) * 2 ^ 1022 = 16 * T := by
    rw [h, show (4503599627370496 : Nat) = 2 ^ (1074 - 1022) by decide]
  rw [e]
  simp

end Go.Fl
