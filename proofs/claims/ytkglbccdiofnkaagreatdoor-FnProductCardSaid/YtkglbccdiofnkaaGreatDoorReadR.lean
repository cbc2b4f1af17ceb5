/-
'Frac' where nothing is said, and 'Read' of the reference, at any text.
-/
import Derived.Test.YtkglbccdiofnkaaGreatDoorReadO
namespace Go.Proofs.YtkglbccdiofnkaaGreatDoor
open Go.RowKit

set_option maxHeartbeats 1600000 in
theorem frac_none (n d : Int) (w : World) (hd0 : 0 < d) (hd : d ≤ 1048576) (hn1 : n ≤ 1125899906842624) (hn2 : -1125899906842624 ≤ n) (hm : (n * 16) % d ≠ 0) :
    Calls Tryz.prog 46 #[.int .i64 n, .int .i64 d] w fun e w' => e = .returned (.agg #[.int .i64 6, .int .i64 0, .int .i64 0, .string ⟨#[]⟩, .slice none 0 0]) ∧ Below w.heap.size w w' := by
  have hz : ((n * 16).tmod d != 0) = true := by
    have h := Int.emod_emod_of_dvd
    rw [bne_iff_ne]
    intro h0
    exact hm (Int.emod_eq_zero_of_dvd (Int.dvd_of_tmod_eq_zero h0))
  have t1 : (d == 0) = false := by simp; omega
  have t2 : ¬ 1048576 < d := by omega
  have t3 : ¬ 1125899906842624 < n := by omega
  have t4 : ¬ n < -1125899906842624 := by omega
  clear hm
  go_enter Tryz.func46, Tryz.ntmps46
  go_wp2_with (go_at_call 34; refine (doubt_any _).mono ?_; rintro e w1 ⟨rfl, hb1⟩; obtain ⟨p0, p1, p2, p3, p4, pf, pz, pb⟩ := own5 hb1; clear hb1)
  refine bodyPost_ret (v := .agg #[.int .i64 6, .int .i64 0, .int .i64 0, .string ⟨#[]⟩, .slice none 0 0]) (by simp [results, Tryz.results46, go_sem, p0, p1, p2, p3, p4]) rfl ⟨rfl, ?_⟩
  exact set5 pb _ _ _ _ _

/-- A fraction, if it is a whole number of sixteenths. -/
def frc (n d : Int) : FV := if (n * 16) % d = 0 then fr (n * 16 / d) else ⟨6, 0, 0, ⟨#[]⟩⟩

theorem frac_all (n d : Int) (w : World) (hd0 : 0 < d) (hd : d ≤ 1048576) (hn1 : n ≤ 1125899906842624) (hn2 : -1125899906842624 ≤ n) :
    Calls Tryz.prog 46 #[.int .i64 n, .int .i64 d] w fun e w' => e = .returned (.agg #[.int .i64 (frc n d).kind, .int .i64 (frc n d).num, .int .i64 (frc n d).den, .string (frc n d).text, .slice none 0 0]) ∧ Below w.heap.size w w' := by
  by_cases hm : (n * 16) % d = 0
  · have e : frc n d = fr (n * 16 / d) := by unfold frc; rw [if_pos hm]
    rw [e]
    exact frac_any n d _ w hd0 hd hn1 hn2 (by rw [Int.ediv_mul_cancel (Int.dvd_of_emod_eq_zero hm)])
  · have e : frc n d = ⟨6, 0, 0, ⟨#[]⟩⟩ := by unfold frc; rw [if_neg hm]
    rw [e]
    exact frac_none n d w hd0 hd hn1 hn2 hm

/-- Digits and a point, read from the left: the number without its point, how many digits, and ten to the power of those behind the point. -/
def rdGo : List UInt8 → Nat → Nat → Nat → Bool → Option (Nat × Nat × Nat)
  | [], n, m, d, _ => some (n, m, d)
  | c :: l, n, m, d, p =>
    if 48 ≤ c.toNat ∧ c.toNat ≤ 57 ∧ m < 12 then rdGo l (10 * n + (c.toNat - 48)) (m + 1) (if p then d * 10 else d) p
    else if c.toNat = 46 ∧ p = false ∧ 0 < m ∧ l ≠ [] then rdGo l n m d true
    else none

def rdEnd (s : ByteArray) (minus : Bool) (r : Option (Nat × Nat × Nat)) : FV :=
  match r with
  | none => oth s
  | some (n, m, d) => if m = 0 ∨ 100000 < d then oth s else frc (if minus then -(n : Int) else n) d

/-- The number that a text is. -/
def rd (s : ByteArray) : FV :=
  if s.data.toList[0]? = some 45 then rdEnd s true (rdGo (s.data.toList.drop 1) 0 0 1 false) else rdEnd s false (rdGo s.data.toList 0 0 1 false)

theorem frc_ok (n d : Int) : (frc n d).ok := by
  unfold frc
  split
  · exact fr_good _
  · exact doubt_ok
theorem oth_ok (s : ByteArray) : (oth s).ok := by
  unfold oth; split
  · exact error_ok _
  · exact doubt_ok
theorem rd_ok (s : ByteArray) : (rd s).ok := by
  have h1 : ∀ b r, (rdEnd s b r).ok := by
    intro b r
    unfold rdEnd
    cases r with
    | none => exact oth_ok s
    | some x =>
      obtain ⟨n, m, d⟩ := x
      simp only
      split
      · exact oth_ok s
      · exact frc_ok _ _
  unfold rd; split <;> exact h1 _ _

end Go.Proofs.YtkglbccdiofnkaaGreatDoor
