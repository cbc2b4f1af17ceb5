/-
PRODUCT of the reference, as a plain function of the arguments.
-/
import Derived.Test.YtkglbccdiofnkaaGreatDoorReadR
import Derived.Test.YtkglbccdiofnkaaGreatDoorTabs
namespace Go.Proofs.YtkglbccdiofnkaaGreatDoor
open Go.RowKit

theorem fr_six (m : Int) (h : (fr m).kind = 1) : (fr m).six = m := by
  by_cases hb : nn m ≤ 99999999999 ∧ -99999999999 ≤ nn m
  · rw [fr_in hb]
    unfold FV.six
    rw [if_pos rfl]
    show nn m * (16 / nd m) = m
    have := nn_eq m
    rcases nd_cases m with e | e | e | e | e <;> rw [e] at this ⊢ <;> simp <;> omega
  · rw [fr_out hb] at h
    simp at h

/-- The product of two numbers. -/
def mulV (a b : FV) : FV := if a.kind = 1 ∧ b.kind = 1 ∧ (a.num ≤ 16777216 ∧ -16777216 ≤ a.num) ∧ (b.num ≤ 16777216 ∧ -16777216 ≤ b.num) then frc (a.num * b.num) (a.den * b.den) else ⟨6, 0, 0, ⟨#[]⟩⟩
def prodV (l : List FV) : FV := l.foldl mulV ⟨1, 1, 1, ⟨#[]⟩⟩

theorem mulV_ok (a b : FV) : (mulV a b).ok := by
  unfold mulV
  split
  · exact frc_ok _ _
  · exact doubt_ok

theorem mulV_fst {a b : FV} (h : (mulV a b).kind = 1) : a.kind = 1 ∧ b.kind = 1 := by
  unfold mulV at h
  split at h
  · next hc => exact ⟨hc.1, hc.2.1⟩
  · simp at h

theorem mulV_six {a b : FV} (ha : a.ok) (hb : b.ok) (h : (mulV a b).kind = 1) : (mulV a b).six * 16 = a.six * b.six := by
  have h12 := mulV_fst h
  have hc : a.kind = 1 ∧ b.kind = 1 ∧ (a.num ≤ 16777216 ∧ -16777216 ≤ a.num) ∧ (b.num ≤ 16777216 ∧ -16777216 ≤ b.num) := by
    unfold mulV at h
    split at h
    · assumption
    · simp at h
  have e : mulV a b = frc (a.num * b.num) (a.den * b.den) := by unfold mulV; rw [if_pos hc]
  rw [e] at h ⊢
  have hm : (a.num * b.num * 16) % (a.den * b.den) = 0 := by
    unfold frc at h
    split at h
    · assumption
    · simp at h
  have e2 : frc (a.num * b.num) (a.den * b.den) = fr (a.num * b.num * 16 / (a.den * b.den)) := by unfold frc; rw [if_pos hm]
  rw [e2] at h ⊢
  rw [fr_six _ h]
  have hd := Int.ediv_mul_cancel (Int.dvd_of_emod_eq_zero hm)
  obtain ⟨q, hq⟩ : ∃ q, q = a.num * b.num * 16 / (a.den * b.den) := ⟨_, rfl⟩
  rw [← hq] at hd ⊢
  obtain ⟨p, hp⟩ : ∃ p, p = a.num * b.num := ⟨_, rfl⟩
  have e3 : a.six * b.six = p * ((16 / a.den) * (16 / b.den)) := by
    unfold FV.six
    rw [if_pos h12.1, if_pos h12.2, hp]
    simp only [Int.mul_assoc, Int.mul_left_comm, Int.mul_comm]
  rw [e3]
  rw [← hp] at hd
  obtain ⟨_, _, c3⟩ := ha.number h12.1
  obtain ⟨_, _, d3⟩ := hb.number h12.2
  rcases c3 with h | h | h | h | h <;> rcases d3 with h' | h' | h' | h' | h' <;> rw [h, h'] at hd ⊢ <;> simp at hd ⊢ <;> omega

theorem foldl_one (l : List FV) : ∀ a : FV, (l.foldl mulV a).kind = 1 → a.kind = 1 := by
  induction l with
  | nil => intro a h; exact h
  | cons x l ih => intro a h; exact (mulV_fst (ih _ h)).1

theorem prodV_ok (l : List FV) : (prodV l).ok := by
  unfold prodV
  rcases List.eq_nil_or_concat l with h | ⟨l', x, h⟩
  · subst h; exact whole_ok 1 (by omega) (by omega)
  · subst h; rw [List.concat_eq_append, List.foldl_append]; exact mulV_ok _ _
theorem prodV_snoc (l : List FV) (x : FV) : prodV (l ++ [x]) = mulV (prodV l) x := by unfold prodV; rw [List.foldl_append]; rfl
theorem prodV_front {l m : List FV} (h : (prodV (l ++ m)).kind = 1) : (prodV l).kind = 1 := by
  unfold prodV at h ⊢
  rw [List.foldl_append] at h
  exact foldl_one m _ h

/-- Whether an argument is one that PRODUCT takes. -/
def argOk : Arg → Bool
  | .one v => v.kind == 1
  | .tbl rows => rows.flatten.all fun v => v.kind == 1 || v.kind == 0
/-- The numbers of an argument. -/
def nums : Arg → List FV
  | .one v => [v]
  | .tbl rows => rows.flatten.filter fun v => v.kind == 1
def memL (al : List Arg) : List FV := al.flatMap nums
/-- What PRODUCT of some arguments is. -/
def rProd (al : List Arg) : FV := if al.all argOk = true ∧ memL al ≠ [] then prodV (memL al) else ⟨6, 0, 0, ⟨#[]⟩⟩
theorem rProd_ok (al : List Arg) : (rProd al).ok := by
  unfold rProd
  split
  · exact prodV_ok _
  · exact doubt_ok

end Go.Proofs.YtkglbccdiofnkaaGreatDoor
