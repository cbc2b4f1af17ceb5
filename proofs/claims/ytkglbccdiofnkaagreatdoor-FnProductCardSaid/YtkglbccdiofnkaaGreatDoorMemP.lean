/-
'members' and 'fold' of the reference, as plain functions of the arguments.
-/
import Derived.Test.YtkglbccdiofnkaaGreatDoorProdP
import Derived.Test.YtkglbccdiofnkaaGreatDoorKinds
namespace Go.Proofs.YtkglbccdiofnkaaGreatDoor
open Go.RowKit

/-- The kinds that may stand in a table. -/
def ksOf (strict : Bool) : List Int := if strict then [1, 0] else [1, 0, 2, 3]
/-- Whether an argument is one of which something is said. -/
def fineA (strict : Bool) : Arg → Bool
  | .one v => v.kind == 1 || (!strict && (v.kind == 3 || v.kind == 4))
  | .tbl rows => allK (ksOf strict) rows.flatten
/-- A truth as a number. -/
def ownV (v : FV) : FV := if v.kind = 3 then ⟨1, v.num, 1, ⟨#[]⟩⟩ else v
/-- The numbers of an argument. -/
def numsA : Arg → List FV
  | .one v => [ownV v]
  | .tbl rows => rows.flatten.filter fun v => v.kind == 1
def badA : Arg → Option FV
  | .one v => if v.kind = 4 then some v else none
  | .tbl _ => none
def memA (al : List Arg) : List FV := al.flatMap numsA
def badL (al : List Arg) : Option FV := al.findSome? badA
/-- What a function of numbers that are taken together says. -/
def rFold (strict : Bool) (f : List FV → FV) (al : List Arg) : FV :=
  if al.all (fineA strict) = true then (match badL al with | some e => e | none => f (memA al)) else ⟨6, 0, 0, ⟨#[]⟩⟩

def filt (l : List FV) : List FV := l.filter fun v => v.kind == 1
theorem filt_append (l m : List FV) : filt (l ++ m) = filt l ++ filt m := List.filter_append ..
theorem filt_snoc (row : List FV) (k : Nat) (x : FV) (h : row[k]? = some x) : filt (row.take (k + 1)) = filt (row.take k) ++ if x.kind = 1 then [x] else [] := by
  rw [take_snoc row k x h, filt_append]
  congr 1
  by_cases h1 : x.kind = 1 <;> simp [filt, h1]
theorem memA_snoc (al : List Arg) (k : Nat) (a : Arg) (h : al[k]? = some a) : memA (al.take (k + 1)) = memA (al.take k) ++ numsA a := by
  rw [take_snoc al k a h]
  simp [memA]
theorem badL_snoc (al : List Arg) (k : Nat) (a : Arg) (h : al[k]? = some a) : badL (al.take (k + 1)) = (badL (al.take k)).or (badA a) := by
  rw [take_snoc al k a h]
  unfold badL
  rw [List.findSome?_append]
  congr 1
  simp only [List.findSome?]
  cases badA a <;> rfl
theorem all_snoc {α : Type} (p : α → Bool) (al : List α) (k : Nat) (a : α) (h : al[k]? = some a) (h0 : (al.take k).all p = true) (h1 : p a = true) : (al.take (k + 1)).all p = true := by
  rw [take_snoc al k a h, List.all_append, h0]
  simp [h1]
theorem all_miss {α : Type} (p : α → Bool) (al : List α) (k : Nat) (a : α) (h : al[k]? = some a) (h1 : p a = false) : al.all p = false := by
  rw [List.all_eq_false]
  exact ⟨a, List.mem_of_getElem? h, by simp [h1]⟩
theorem numsA_len (a : Arg) : (numsA a).length ≤ a.flat.length := by
  cases a with
  | one v => simp [numsA, Arg.flat]
  | tbl rows => exact List.length_filter_le _ _
theorem memA_len (al : List Arg) : (memA al).length ≤ (flats al).length := by
  unfold memA flats
  induction al with
  | nil => simp
  | cons a al ih =>
    rw [List.flatMap_cons, List.flatMap_cons, List.length_append, List.length_append]
    have := numsA_len a
    omega
theorem memA_take_len (al : List Arg) (k : Nat) : (memA (al.take k)).length ≤ (flats al).length := Nat.le_trans (memA_len _) (flats_len al k)

theorem ownV_ok (v : FV) (h : v.ok) (hk : v.kind = 1 ∨ v.kind = 3) : (ownV v).ok ∧ (ownV v).kind = 1 := by
  unfold ownV
  by_cases h3 : v.kind = 3
  · rw [if_pos h3]
    have := h.logic h3
    exact ⟨whole_ok v.num (by omega) (by omega), rfl⟩
  · rw [if_neg h3]
    exact ⟨h, by omega⟩
theorem ownV_six (v : FV) : (ownV v).six = v.six := by
  unfold ownV
  by_cases h3 : v.kind = 3
  · rw [if_pos h3, whole_six]
    unfold FV.six
    rw [if_neg (by omega), if_pos h3]
  · rw [if_neg h3]

/-- The numbers that are taken together are numbers, and well formed. -/
theorem memA_ok (strict : Bool) (al : List Arg) (hg : ∀ a ∈ al, a.good) (hf : al.all (fineA strict) = true) (hb : badL al = none) : ∀ x ∈ memA al, x.ok ∧ x.kind = 1 := by
  intro x hx
  obtain ⟨a, ha, hxa⟩ := List.mem_flatMap.1 hx
  have hfa := List.all_eq_true.1 hf a ha
  have hba : badA a = none := List.findSome?_eq_none_iff.1 hb a ha
  cases a with
  | one v =>
    have e : x = ownV v := by simpa [numsA] using hxa
    subst e
    refine ownV_ok v (hg _ ha) ?_
    by_cases h4 : v.kind = 4
    · simp [badA, h4] at hba
    · by_cases h1 : v.kind = 1
      · exact .inl h1
      · by_cases h3 : v.kind = 3
        · exact .inr h3
        · simp [fineA, h1, h3, h4] at hfa
  | tbl rows =>
    obtain ⟨h1, h2⟩ := List.mem_filter.1 hxa
    obtain ⟨r, hr, hxr⟩ := List.mem_flatten.1 h1
    exact ⟨(hg _ ha).2.2 r hr x hxr, by simpa using h2⟩

theorem strict_bad (al : List Arg) (hf : al.all (fineA true) = true) : badL al = none := by
  refine List.findSome?_eq_none_iff.2 fun a ha => ?_
  have hfa := List.all_eq_true.1 hf a ha
  cases a with
  | one v =>
    have h1 : v.kind = 1 := by simpa [fineA] using hfa
    simp [badA, h1]
  | tbl rows => rfl

theorem badL_ok (al : List Arg) (hg : ∀ a ∈ al, a.good) (e : FV) (h : badL al = some e) : e.ok ∧ e.kind = 4 := by
  obtain ⟨a, ha, hae⟩ := List.exists_of_findSome?_eq_some h
  cases a with
  | one v =>
    by_cases h4 : v.kind = 4
    · have : v = e := by simpa [badA, h4] using hae
      subst this
      exact ⟨hg _ ha, h4⟩
    · simp [badA, h4] at hae
  | tbl rows => simp [badA] at hae

theorem rFold_ok (strict : Bool) (f : List FV → FV) (al : List Arg) (hg : ∀ a ∈ al, a.good) (hf : ∀ l : List FV, (∀ x ∈ l, x.ok ∧ x.kind = 1) → (f l).ok) : (rFold strict f al).ok := by
  unfold rFold
  split
  · rename_i h
    cases hb : badL al with
    | none => exact hf _ (memA_ok strict al hg h hb)
    | some e => exact (badL_ok al hg e hb).1
  · exact doubt_ok

end Go.Proofs.YtkglbccdiofnkaaGreatDoor
