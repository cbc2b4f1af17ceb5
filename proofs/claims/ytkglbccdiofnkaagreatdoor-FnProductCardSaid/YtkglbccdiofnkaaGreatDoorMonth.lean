/-
'month' of the reference, at any text.
-/
import Derived.Test.YtkglbccdiofnkaaGreatDoorRead
namespace Go.Proofs.YtkglbccdiofnkaaGreatDoor
open Go.RowKit

/-- The first three letters of the names of months and of days. -/
def monthNames : List (List UInt8) := [[106, 97, 110], [102, 101, 98], [109, 97, 114], [97, 112, 114], [109, 97, 121], [106, 117, 110], [106, 117, 108], [97, 117, 103], [115, 101, 112], [111, 99, 116], [110, 111, 118], [100, 101, 99], [109, 111, 110], [116, 117, 101], [119, 101, 100], [116, 104, 117], [102, 114, 105], [115, 97, 116], [115, 117, 110]]

/-- Whether a text begins like the name of a month, or of a day. -/
def monthB (s : ByteArray) : Bool := decide (3 ≤ s.size) && monthNames.any fun m => (s.extract 0 3).toList == m

set_option maxRecDepth 100000 in
set_option maxHeartbeats 4000000 in
theorem month_any (s : ByteArray) (w : World) (hs : s.size ≤ 1000000000) :
    Calls Tryz.prog 281 #[.string s] w fun e w' => e = .returned (.bool (monthB s)) ∧ w = w' := by
  by_cases h3 : s.size < 3
  · have h3' : (s.size : Int) < 3 := by omega
    have HR : Hid (monthB s = false) := by
      have : decide (3 ≤ s.size) = false := by simp; omega
      rw [Hid, monthB, this]; rfl
    clear h3
    go_enter Tryz.func281, Tryz.ntmps281
    go_wp2
    go_ret
    exact ⟨by rw [HR.out]; rfl, rfl⟩
  · have h3' : ¬ (s.size : Int) < 3 := by omega
    have h3i : (3 : Int) ≤ (s.size : Int) := by omega
    have hd : Hid (decide (3 ≤ s.size) = true) := by rw [Hid, decide_eq_true_eq]; omega
    obtain ⟨p, hp⟩ : ∃ p, p = s.extract 0 3 := ⟨_, rfl⟩
    have HP : Hid (monthB s = monthNames.any fun m => p.toList == m) := by rw [Hid, monthB, hd.out, Bool.true_and, hp]
    rw [HP.out]
    have hp' : s.extract 0 3 = p := hp.symm
    clear h3 hp
    go_enter Tryz.func281, Tryz.ntmps281
    go_wp2
    all_goals
      go_ret
      refine ⟨?_, rfl⟩
      first
        | (simp_all only [monthNames, List.any_cons, Bool.true_or, Bool.false_or, Bool.or_true, List.any_nil, reduceCtorEq]; done)
        | (simp_all only [monthNames, List.any_cons, Bool.true_or, Bool.false_or, Bool.or_true, List.any_nil]; rfl)
        | (simp_all [monthNames]; done)

end Go.Proofs.YtkglbccdiofnkaaGreatDoor
