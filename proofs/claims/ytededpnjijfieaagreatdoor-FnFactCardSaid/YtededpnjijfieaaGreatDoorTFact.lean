/-
The package's FACT says what the reference says.
-/
import Derived.Test.YtededpnjijfieaaGreatDoorDoor
import Derived.Test.YtededpnjijfieaaGreatDoorCallFact
import Derived.Test.YtededpnjijfieaaGreatDoorWhole
namespace Go.Proofs.YtededpnjijfieaaGreatDoor
open Go.RowKit Go.Fl

theorem rFact_ok (n : Int) (_b1 : n ≤ 99999999999) (_b2 : -99999999999 ≤ n) : (rFact n).ok := by
  unfold rFact
  split
  · exact error_ok _
  · split
    · exact fr_good _
    · exact doubt_ok

theorem tells_Fact (n : Int) (l : Nat) (es : List (Nat × Value)) (f : Option Addr) (W : World) (_b1 : n ≤ 99999999999) (b2 : -99999999999 ≤ n) (h6 : (rFact n).kind ≠ 6) (hI : IList W l [⟨1, n, 1, ⟨#[]⟩⟩] es) :
    Calls Tryz.prog 49 #[.pointer f, .pointer (some ⟨l, 0, none⟩)] W (Tells (rFact n) W) := by
  by_cases h : n < 0
  · have e : rFact n = ⟨4, 0, 0, eNUM⟩ := by unfold rFact; rw [if_pos h]
    rw [e]
    refine (FACT_neg n l es f W h b2 hI).mono fun e' w' ⟨he, hb⟩ => ?_
    exact ⟨⟨0, eNUM, false, eNUM, 5⟩, ⟨.inr (.inr (.inl rfl)), rfl, Sx.zero, rfl⟩, he, hb⟩
  · have h18 : n ≤ 18 := by
      by_cases h18 : n ≤ 18
      · exact h18
      · exfalso; apply h6; unfold rFact; rw [if_neg h, if_neg h18]
    have e : rFact n = fr (16 * (fac n.toNat : Int)) := by unfold rFact; rw [if_neg h, if_pos h18]
    rcases fr_whole (fac n.toNat : Int) with ⟨e1, c1, c2⟩ | e1
    · rw [e, e1]
      have hn : ((n.toNat : Nat) : Int) = n := Int.toNat_of_nonneg (by omega)
      rw [← hn] at hI
      refine (FACT_fn n.toNat l es f W (by omega) hI).mono fun e' w' ⟨⟨y, hy, he⟩, hb⟩ => ?_
      exact ⟨⟨y, ⟨#[]⟩, false, ⟨#[]⟩, 1⟩, ⟨.inl rfl, rfl, by rw [whole_six]; exact hy, rfl⟩, he, hb⟩
    · exfalso
      apply h6
      rw [e, e1]

end Go.Proofs.YtededpnjijfieaaGreatDoor
