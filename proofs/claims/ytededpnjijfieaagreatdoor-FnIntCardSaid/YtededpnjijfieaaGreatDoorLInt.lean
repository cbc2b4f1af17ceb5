/-
The law FnInt: it returns true, whatever the number.
-/
import Derived.Test.YtededpnjijfieaaGreatDoorTInt
namespace Go.Proofs.YtededpnjijfieaaGreatDoor
open Go.RowKit Go.Fl

theorem fr_one (m : Int) : (fr m).kind = 1 ∨ (fr m) = ⟨6, 0, 0, ⟨#[]⟩⟩ := by
  by_cases h : nn m ≤ 99999999999 ∧ -99999999999 ≤ nn m
  · rw [fr_in h]; exact .inl rfl
  · rw [fr_out h]; exact .inr rfl

theorem int_agrees (m : Int) (v : Value) (w : World) (hr : Row w w.heap.size 5 v [FV.list (fr m)]) :
    Calls Tryz.prog 11 #[.func (.func 22) #[] #[], .string ⟨#[73, 78, 84]⟩, v] w fun e w' => e = .returned (.bool true) ∧ Below w.heap.size w w' := by
  have hok := fr_good m
  obtain ⟨x, hx⟩ : ∃ x, x = fr m := ⟨_, rfl⟩
  have hkk := fr_one m
  rw [← hx] at hr hok hkk
  rcases hkk with h1 | h6
  · obtain ⟨a1, a2, a3⟩ := hok.number h1
    have hq : x.num / x.den ≤ 99999999999 ∧ -99999999999 ≤ x.num / x.den := by rcases a3 with h | h | h | h | h <;> rw [h] <;> omega
    refine agrees_flat _ _ [x] ⟨1, x.num / x.den, 1, ⟨#[]⟩⟩ v w hr (by simpa using hok) (by simp) (whole_ok _ hq.1 hq.2) (fun W hW => call_Int x v W ((hr.below hW).more hW.size) h1 hok) enter_INT ?_
    intro _ _ W v' hR
    refine impl_INT [x] _ v' W hR (by simpa using hok) (by simp) fun W f l es hI => ?_
    refine (INT_fn x l es f W hok h1 hI).mono fun e' w' ⟨⟨z, hz, he⟩, hb⟩ => ?_
    rw [six_div x hok h1] at hz
    exact ⟨⟨z, ⟨#[]⟩, false, ⟨#[]⟩, 1⟩, ⟨.inl rfl, rfl, by rw [whole_six]; exact hz, rfl⟩, he, hb⟩
  · exact agrees_flat _ _ [x] ⟨6, 0, 0, ⟨#[]⟩⟩ v w hr (by simpa using hok) (by simp) doubt_ok (fun W hW => call_Int_no x v W ((hr.below hW).more hW.size) (by rw [h6])) enter_INT (fun hu => by simp [anyUnsure, h6] at hu)

set_option maxRecDepth 100000 in
theorem law_Int (n : Int) (w : World) :
    Calls Tryz.prog 10 #[.int .i64 n] w fun e w' => e = .returned (.bool true) ∧ Below w.heap.size w w' := by
  go_enter Tryz.func10, Tryz.ntmps10
  go_wp2_with (first
    | (go_at_call 13; refine (argPart_any _ _).mono ?_; rintro e w1 ⟨rfl, hb1⟩)
    | (go_at_call 11; refine (int_agrees (clamp45 n) _ _ (Row.lit1 _ _ (FV.list (fr (clamp45 n))) _ rfl)).mono ?_; rintro e w2 ⟨rfl, hb2⟩))
  go_ret
  exact ⟨rfl, hb1.trans ((below_one hb2).mono hb1.size)⟩

end Go.Proofs.YtededpnjijfieaaGreatDoor
