/-
The law FnIsodd: it returns true, whatever the number.
-/
import Derived.Test.YtededpnjijfieaaGreatDoorDoor
import Derived.Test.YtededpnjijfieaaGreatDoorCallIsodd
import Derived.Test.YtededpnjijfieaaGreatDoorIsodd
namespace Go.Proofs.YtededpnjijfieaaGreatDoor
open Go.RowKit Go.Fl

theorem fr_ok (m : Int) : (fr m).ok := by
  by_cases h : nn m ≤ 99999999999 ∧ -99999999999 ≤ nn m
  · rw [fr_in h]
    exact ⟨by simp, fun _ => ⟨h.1, h.2, nd_cases m⟩, fun h => by simp at h⟩
  · rw [fr_out h]
    exact ⟨by simp, fun h => by simp at h, fun h => by simp at h⟩
theorem fr_kind (m : Int) : (fr m).kind = 1 ∨ (fr m).kind = 6 := by
  by_cases h : nn m ≤ 99999999999 ∧ -99999999999 ≤ nn m
  · rw [fr_in h]; exact .inl rfl
  · rw [fr_out h]; exact .inr rfl
theorem six_tdiv (n d : Int) (hd : d = 1 ∨ d = 2 ∨ d = 4 ∨ d = 8 ∨ d = 16) : (n * (16 / d)).tdiv 16 = n.tdiv d := by
  have h : ∀ a b : Int, 0 < b → (n * b).tdiv (a * b) = n.tdiv a := fun a b hb => by
    rw [Int.mul_comm n, Int.mul_comm a]; exact Int.mul_tdiv_mul_of_pos _ _ hb
  rcases hd with rfl | rfl | rfl | rfl | rfl
  · exact h 1 16 (by omega)
  · exact h 2 8 (by omega)
  · exact h 4 4 (by omega)
  · exact h 8 2 (by omega)
  · exact h 16 1 (by omega)

/-- What ISODD of a number is. -/
def rIsodd (x : FV) : FV := if x.kind = 1 then bv (decide (x.num.tdiv x.den % 2 ≠ 0)) else ⟨6, 0, 0, ⟨#[]⟩⟩

theorem bv_ok (b : Bool) : (bv b).ok := ⟨by simp [bv], fun h => by simp [bv] at h, fun _ => by cases b <;> simp [bv]⟩
theorem bv_six (b : Bool) : (bv b).six = if b then 16 else 0 := by cases b <;> rfl

theorem isodd_agrees (m : Int) (v : Value) (w : World) (hr : Row w w.heap.size 5 v [FV.list (fr m)]) :
    Calls Tryz.prog 11 #[.func (.func 12) #[] #[], .string ⟨#[73, 83, 79, 68, 68]⟩, v] w fun e w' => e = .returned (.bool true) ∧ Below w.heap.size w w' := by
  have hok := fr_ok m
  obtain ⟨x, hx⟩ : ∃ x, x = fr m := ⟨_, rfl⟩
  have hkk := fr_kind m
  rw [← hx] at hr hok hkk
  have hrok : (rIsodd x).ok := by
    unfold rIsodd
    split
    · exact bv_ok _
    · exact ⟨by simp, fun h => by simp at h, fun h => by simp at h⟩
  refine agrees_flat _ _ [x] (rIsodd x) v w hr (by simpa using hok) (by simp) hrok ?_ enter_ISODD ?_
  · intro W hW
    have hrW := (hr.below hW).more hW.size
    by_cases h1 : x.kind = 1
    · obtain ⟨a1, a2, a3⟩ := hok.number h1
      have e : rIsodd x = bv (decide (x.num.tdiv x.den % 2 ≠ 0)) := by unfold rIsodd; rw [if_pos h1]
      rw [e]
      exact call_Isodd x v W hrW h1 a1 a2 (by omega) (by omega)
    · have e : rIsodd x = ⟨6, 0, 0, ⟨#[]⟩⟩ := by unfold rIsodd; rw [if_neg h1]
      rw [e]
      exact call_Isodd_no x v W hrW h1 (by omega)
  · intro _ h6 W v' hR
    have h1 : x.kind = 1 := by
      rcases hkk with h | h
      · exact h
      · exfalso; apply h6; unfold rIsodd; rw [if_neg (by omega)]
    have e : rIsodd x = bv (decide (x.num.tdiv x.den % 2 ≠ 0)) := by unfold rIsodd; rw [if_pos h1]
    obtain ⟨a1, a2, a3⟩ := hok.number h1
    have hs : x.six.tdiv 16 = x.num.tdiv x.den := by
      unfold FV.six
      rw [if_pos h1]
      exact six_tdiv _ _ a3
    refine impl_ISODD [x] (rIsodd x) v' W hR (by simpa using hok) (by simp) fun W f l es hI => ?_
    refine (isodd_fn x l es f W hok h1 hI).mono fun e' w' ⟨he, hb⟩ => ?_
    rw [hs] at he
    refine ⟨⟨tw (decide (x.num.tdiv x.den % 2 ≠ 0)), ⟨#[]⟩, true, ⟨#[]⟩, 1⟩, ⟨.inl rfl, ?_, ?_, ?_⟩, he, hb⟩
    · rw [e]; rfl
    · rw [e, bv_six]; exact Sx.tw _
    · rw [e]; rfl

set_option maxRecDepth 100000 in
theorem law_Isodd (n : Int) (w : World) :
    Calls Tryz.prog 3 #[.int .i64 n] w fun e w' => e = .returned (.bool true) ∧ Below w.heap.size w w' := by
  go_enter Tryz.func3, Tryz.ntmps3
  go_wp2_with (first
    | (go_at_call 13; refine (argPart_any _ _).mono ?_; rintro e w1 ⟨rfl, hb1⟩)
    | (go_at_call 11; refine (isodd_agrees (clamp45 n) _ _ (Row.lit1 _ _ (FV.list (fr (clamp45 n))) _ rfl)).mono ?_; rintro e w2 ⟨rfl, hb2⟩))
  go_ret
  exact ⟨rfl, hb1.trans ((below_one hb2).mono hb1.size)⟩

end Go.Proofs.YtededpnjijfieaaGreatDoor
