/-
Factorials, and the package's 'fact'.
-/
import Derived.Test.YtededpnjijfieaaGreatDoorIsodd
namespace Go.Proofs.YtededpnjijfieaaGreatDoor
open Go.RowKit Go.Fl

def fac : Nat → Nat
  | 0 => 1
  | n + 1 => (n + 1) * fac n
theorem fac_pos : ∀ n, 1 ≤ fac n
  | 0 => Nat.le_refl _
  | n + 1 => Nat.mul_pos (Nat.succ_pos n) (fac_pos n)
theorem fac_self (n : Nat) : n ≤ fac n := by
  cases n with
  | zero => exact Nat.zero_le _
  | succ n => exact Nat.le_mul_of_pos_right _ (fac_pos n)
theorem fac_mono {k n : Nat} (h : k ≤ n) : fac k ≤ fac n := by
  induction n with
  | zero => have : k = 0 := by omega
            subst this; exact Nat.le_refl _
  | succ n ih =>
    rcases Nat.lt_or_ge n k with h1 | h1
    · have : k = n + 1 := by omega
      subst this; exact Nat.le_refl _
    · exact Nat.le_trans (ih h1) (Nat.le_mul_of_pos_left _ (Nat.succ_pos n))
theorem fac_one {k : Nat} (h : k ≤ 1) : fac k = 1 := by
  have : k = 0 ∨ k = 1 := by omega
  rcases this with rfl | rfl <;> rfl

theorem Sx.two : Sx 4611686018427387904 32 := by
  obtain ⟨r, h, hs⟩ := Sx.add Sx.one Sx.one (by omega) (by omega)
  have e : Ieee.double.add 4607182418800017408 4607182418800017408 = some 4611686018427387904 := by decide
  rw [e] at h
  injection h with h
  rw [h]
  exact hs

set_option maxRecDepth 100000 in
set_option maxHeartbeats 1000000 in
theorem fact_any (y n : Nat) (w : World) (hy : Sx y (16 * (n : Int))) (hn : fac n ≤ 99999999999) :
    Calls Tryz.prog 73 #[.float .f64 y] w fun e w' => (∃ z, Sx z (16 * (fac n : Int)) ∧ e = .returned (.float .f64 z)) ∧ Below w.heap.size w w' := by
  have hn1 : n ≤ 99999999999 := Nat.le_trans (fac_self n) hn
  have HY := Lib.hid hy
  clear hy
  go_enter Tryz.func73, Tryz.ntmps73
  go_wp2
  go_loopg [3, 4] (n + 2) (fun gn v i wr => w = wr ∧ ∃ k a b : Nat, gn = n + 4 - k ∧ 2 ≤ k ∧ k ≤ max n 1 + 1 ∧ v = .float .f64 a ∧ i = .float .f64 b ∧ Sx a (16 * (fac (k - 1) : Int)) ∧ Sx b (16 * (k : Int)))
  case atStart => exact ⟨rfl, 2, _, _, rfl, Nat.le_refl _, by omega, rfl, rfl, Sx.one, Sx.two⟩
  case round =>
    obtain ⟨rfl, k, a, b, hgk, hk2, hk1, rfl, rfl, ha, hb⟩ := hrel
    have HG := Lib.hid hgk
    have HA := Lib.hid ha
    have HB := Lib.hid hb
    have HK := Lib.hid hk2
    have HK1 := Lib.hid hk1
    clear ha hb hk2 hk1 hgk
    by_cases hlt : k ≤ n
    · have hc : (FloatKind.f64.format.order b y == some .lt || FloatKind.f64.format.order b y == some .eq) = true := by
        have h1 := Sx.lt_ HB.out HY.out
        have h2 := Sx.eq_ HB.out HY.out
        show (Ieee.double.order b y == some .lt || Ieee.double.order b y == some .eq) = true
        rw [h1, h2]
        simp
        omega
      obtain ⟨r, hr, hsr⟩ : ∃ r, Ieee.double.mul a b = some r ∧ Sx r (16 * (fac k : Int)) := by
        have hf : fac k = k * fac (k - 1) := by
          obtain ⟨j, rfl⟩ : ∃ j, k = j + 1 := ⟨k - 1, by have := HK.out; omega⟩
          rfl
        have hle := Nat.le_trans (fac_mono hlt) hn
        have hle1 : fac (k - 1) ≤ 99999999999 := Nat.le_trans (fac_mono (by omega)) hle
        refine Sx.mul HA.out HB.out ?_ (by omega) (by omega)
        rw [hf, Int.natCast_mul]
        have : ∀ p q : Int, 16 * (p * q) * 16 = 16 * q * (16 * p) := fun p q => by ac_rfl
        exact this _ _
      obtain ⟨r2, hr2, hsr2⟩ : ∃ r, Ieee.double.add b 4607182418800017408 = some r ∧ Sx r (16 * ((k + 1 : Nat) : Int)) := by
        obtain ⟨r, h1, h2⟩ := Sx.add HB.out Sx.one (by omega) (by omega)
        refine ⟨r, h1, ?_⟩
        have e : (16 * (k : Int) + 16) = 16 * ((k + 1 : Nat) : Int) := by omega
        rwa [e] at h2
      have hm : ∀ w, (binOp .mul 41 (.float .f64 a) (.float .f64 b)).run Tryz.prog w = .ok (.float .f64 r) w := fun w => run_float_arith w .mul _ .f64 _ _ _ hr
      have hm2 : ∀ w, (binOp .add 41 (.float .f64 b) (.float .f64 4607182418800017408)).run Tryz.prog w = .ok (.float .f64 r2) w := fun w => run_float_arith w .add _ .f64 _ _ _ hr2
      have HR := Lib.hid hsr
      have HR2 := Lib.hid hsr2
      have HL : Hid (k ≤ n) := hlt
      clear hsr hsr2 hr hr2 hlt
      go_wp2
      have hlt := HL.out
      have hgk := HG.out
      go_roundg (n + 4 - (k + 1))
      case measure => omega
      case rel => exact ⟨rfl, k + 1, r, r2, rfl, by have := HK.out; omega, by omega, rfl, rfl, HR.out, HR2.out⟩
    · have hc : (FloatKind.f64.format.order b y == some .lt || FloatKind.f64.format.order b y == some .eq) = false := by
        have h1 := Sx.lt_ HB.out HY.out
        have h2 := Sx.eq_ HB.out HY.out
        show (Ieee.double.order b y == some .lt || Ieee.double.order b y == some .eq) = false
        rw [h1, h2]
        simp
        omega
      have HR : Hid (Sx a (16 * (fac n : Int))) := by
        have e : fac (k - 1) = fac n := by
          have h1 := HK.out
          have h2 := HK1.out
          rcases Nat.lt_or_ge 1 n with h | h
          · congr 1; omega
          · rw [fac_one h, fac_one (by omega)]
        rw [Hid, ← e]
        exact HA.out
      clear hlt
      go_wp2
      go_ret
      exact ⟨⟨_, HR.out, rfl⟩, Below.refl _ _⟩

/-- The error of a number that is none. -/
def eNUM : ByteArray := ⟨#[35, 78, 85, 77, 33]⟩

set_option maxRecDepth 100000 in
set_option maxHeartbeats 1000000 in
theorem FACT_fn (n : Nat) (l : Nat) (es : List (Nat × Value)) (f : Option Addr) (w : World) (hn : fac n ≤ 99999999999) (hI : IList w l [⟨1, n, 1, ⟨#[]⟩⟩] es) :
    Calls Tryz.prog 49 #[.pointer f, .pointer (some ⟨l, 0, none⟩)] w
      fun e w' => (∃ y, Sx y (16 * (fac n : Int)) ∧ e = .returned (.agg #[.string ⟨#[]⟩, .float .f64 y, .string ⟨#[]⟩, .slice none 0 0, .slice none 0 0, .bool false, .string ⟨#[]⟩, .int .u8 1, .pointer none, .pointer none])) ∧ Below w.heap.size w w' := by
  have hu80 := Tryz.underlying65
  have hta := assertArg
  obtain ⟨e, g, hes, hg, hnx, hp, hcell⟩ := hI.one
  obtain ⟨y, hy, rfl⟩ := hg.1 rfl
  have hy' : Sx y (16 * (n : Int)) := by
    have e : (⟨1, n, 1, ⟨#[]⟩⟩ : FV).six = 16 * (n : Int) := by unfold FV.six; simp; omega
    rwa [e] at hy
  obtain ⟨ce, fe, ze⟩ := row_facts hcell
  have HR := Lib.hid hI.ring
  have HN := Lib.hid hnx
  have HY := Lib.hid hy'
  have hlen : es.length = 1 := hI.len
  have HLen := Lib.hid hlen
  have hn1 : n ≤ 99999999999 := Nat.le_trans (fac_self n) hn
  clear hI hg hnx hp hcell hes hy hy' hlen
  go_enter Tryz.func49, Tryz.ntmps49
  go_wp2_with (first
    | (go_at_call 63; refine (len_any _ (HR.out.alloc _)).mono ?_; rintro e w1 ⟨rfl, rfl⟩; rw [HLen.out])
    | (go_at_call 65; refine (front_some _ (HR.out.alloc _) (by rw [HLen.out]; omega)).mono ?_; rintro e w1 ⟨rfl, rfl⟩; rw [HN.out])
    | (go_at_call 66; refine (toNumber_num _ _ _ _ _ _ HY.out).mono ?_; rintro e w1 ⟨z, hz, rfl, hb1⟩; have hlt : (FloatKind.f64.format.order z 0 == some .lt) = false := (Sx.lt_ hz Sx.zero).trans (by simp; omega); obtain ⟨ca, fa, za, ka⟩ := box_cells (heap_new1 _ _) hb1; have pb1 := below_one hb1; have HZ := Lib.hid hz; clear hz)
    | (go_at_call 73; refine (fact_any _ n _ HZ.out hn).mono ?_; rintro e w2 ⟨⟨z2, hz2, rfl⟩, hb2⟩; obtain ⟨cb0, fb0, zb, kb⟩ := box_later ka hb2; have pb2 := below_box pb1 pb1.size hb2; have HZ2 := Lib.hid hz2; clear hz2 ca fa)
    | (go_at_call 72; refine (newNum_any _ _ _ HZ2.out).mono ?_; rintro e w3 ⟨z3, hz3, rfl, hb3⟩; obtain ⟨cb, fb, zc, kc⟩ := box_cells kb hb3; have pb3 := below_next pb2 pb2.size hb3; have HZ3 := Lib.hid hz3; clear hz3 cb0 fb0))
  refine bodyPost_ret (v := .agg #[.string ⟨#[]⟩, .float .f64 z3, .string ⟨#[]⟩, .slice none 0 0, .slice none 0 0, .bool false, .string ⟨#[]⟩, .int .u8 1, .pointer none, .pointer none]) (by simp [results, Tryz.results49, go_sem, cb]) rfl ⟨⟨z3, HZ3.out, rfl⟩, ?_⟩
  clear cb fb
  (repeat refine below_set0 ?_ _ _)
  exact pb3

set_option maxRecDepth 100000 in
set_option maxHeartbeats 1000000 in
theorem FACT_neg (n : Int) (l : Nat) (es : List (Nat × Value)) (f : Option Addr) (w : World) (hn : n < 0) (hn2 : -99999999999 ≤ n) (hI : IList w l [⟨1, n, 1, ⟨#[]⟩⟩] es) :
    Calls Tryz.prog 49 #[.pointer f, .pointer (some ⟨l, 0, none⟩)] w
      fun e w' => e = .returned (.agg #[.string ⟨#[]⟩, .float .f64 0, .string eNUM, .slice none 0 0, .slice none 0 0, .bool false, .string eNUM, .int .u8 5, .pointer none, .pointer none]) ∧ Below w.heap.size w w' := by
  have hu80 := Tryz.underlying65
  have hta := assertArg
  obtain ⟨e, g, hes, hg, hnx, hp, hcell⟩ := hI.one
  obtain ⟨y, hy, rfl⟩ := hg.1 rfl
  have hy' : Sx y (16 * n) := by
    have e : (⟨1, n, 1, ⟨#[]⟩⟩ : FV).six = 16 * n := by unfold FV.six; simp; omega
    rwa [e] at hy
  obtain ⟨ce, fe, ze⟩ := row_facts hcell
  have HR := Lib.hid hI.ring
  have HN := Lib.hid hnx
  have HY := Lib.hid hy'
  have hlen : es.length = 1 := hI.len
  have HLen := Lib.hid hlen
  clear hI hg hnx hp hcell hes hy hy' hlen
  go_enter Tryz.func49, Tryz.ntmps49
  go_wp2_with (first
    | (go_at_call 63; refine (len_any _ (HR.out.alloc _)).mono ?_; rintro e w1 ⟨rfl, rfl⟩; rw [HLen.out])
    | (go_at_call 65; refine (front_some _ (HR.out.alloc _) (by rw [HLen.out]; omega)).mono ?_; rintro e w1 ⟨rfl, rfl⟩; rw [HN.out])
    | (go_at_call 66; refine (toNumber_num _ _ _ _ _ _ HY.out).mono ?_; rintro e w1 ⟨z, hz, rfl, hb1⟩; have hlt : (FloatKind.f64.format.order z 0 == some .lt) = true := (Sx.lt_ hz Sx.zero).trans (by simp; omega); obtain ⟨ca, fa, za, ka⟩ := box_cells (heap_new1 _ _) hb1; clear hz)
    | (go_at_call 64; refine (newErr_any _ _ _).mono ?_; rintro e w3 ⟨rfl, hb3⟩; obtain ⟨cb, fb, zc, kc⟩ := box_later ka hb3; clear ca fa))
  refine bodyPost_ret (v := .agg #[.string ⟨#[]⟩, .float .f64 0, .string eNUM, .slice none 0 0, .slice none 0 0, .bool false, .string eNUM, .int .u8 5, .pointer none, .pointer none]) (by simp [results, Tryz.results49, go_sem, cb, eNUM]) rfl ⟨rfl, ?_⟩
  have pb := (below_one hb1).trans ((below_one hb3).mono (by have := hb1.size; simp at this; omega))
  clear cb fb
  (repeat refine below_set0 ?_ _ _)
  exact pb

end Go.Proofs.YtededpnjijfieaaGreatDoor
