/-
The package's CHAR says what the reference says.
-/
import Derived.Test.YtededpnjijfieaaGreatDoorDoor
import Derived.Test.YtededpnjijfieaaGreatDoorChar
namespace Go.Proofs.YtededpnjijfieaaGreatDoor
open Go.RowKit Go.Fl

theorem rChar_ok (n : Int) (_b1 : n ≤ 99999999999) (_b2 : -99999999999 ≤ n) : (rChar n).ok := by
  unfold rChar
  split
  · exact text_ok _
  · split
    · exact error_ok _
    · exact doubt_ok

theorem tells_Char (n : Int) (l : Nat) (es : List (Nat × Value)) (f : Option Addr) (W : World) (_b1 : n ≤ 99999999999) (b2 : -99999999999 ≤ n) (h6 : (rChar n).kind ≠ 6) (hI : IList W l [⟨1, n, 1, ⟨#[]⟩⟩] es) :
    Calls Tryz.prog 48 #[.pointer f, .pointer (some ⟨l, 0, none⟩)] W (Tells (rChar n) W) := by
  by_cases h1 : 32 ≤ n ∧ n ≤ 126
  · have e : rChar n = ⟨2, 0, 0, ⟨#[UInt8.ofNat n.toNat]⟩⟩ := by unfold rChar; rw [if_pos h1]
    rw [e]
    refine (CHAR_text n l es f W h1.1 h1.2 hI).mono fun e' w' ⟨he, hb⟩ => ?_
    exact ⟨⟨0, ⟨#[UInt8.ofNat n.toNat]⟩, false, ⟨#[]⟩, 2⟩, ⟨.inr (.inl rfl), rfl, Sx.zero, rfl⟩, he, hb⟩
  · by_cases h2 : n < 0
    · have e : rChar n = ⟨4, 0, 0, eVALUE⟩ := by unfold rChar; rw [if_neg h1, if_pos h2]
      rw [e]
      refine (CHAR_neg n l es f W h2 b2 hI).mono fun e' w' ⟨he, hb⟩ => ?_
      exact ⟨⟨0, eVALUE, false, eVALUE, 5⟩, ⟨.inr (.inr (.inl rfl)), rfl, Sx.zero, rfl⟩, he, hb⟩
    · exfalso
      apply h6
      unfold rChar
      rw [if_neg h1, if_neg h2]

end Go.Proofs.YtededpnjijfieaaGreatDoor
