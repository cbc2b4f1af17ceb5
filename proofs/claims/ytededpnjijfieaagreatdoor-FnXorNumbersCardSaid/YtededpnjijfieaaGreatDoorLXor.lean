/-
The laws FnXor and FnXorNumbers: they return true, whatever the list.
-/
import Derived.Test.YtededpnjijfieaaGreatDoorDoor
import Derived.Test.YtededpnjijfieaaGreatDoorCallXor
import Derived.Test.YtededpnjijfieaaGreatDoorArgs
namespace Go.Proofs.YtededpnjijfieaaGreatDoor
open Go.RowKit Go.Fl

theorem bv_good (b : Bool) : (bv b).ok := ⟨by simp [bv], fun h => by simp [bv] at h, fun _ => by cases b <;> simp [bv]⟩
theorem bv_sixteen (b : Bool) : (bv b).six = if b then 16 else 0 := by cases b <;> rfl

theorem xor_agrees (vs : List FV) (v : Value) (w : World) (hr : Row w w.heap.size 5 v (vs.map FV.list)) (hok : ∀ x ∈ vs, x.ok) (hk : ∀ x ∈ vs, x.kind = 1 ∨ x.kind = 3 ∨ x.kind = 6) (hn : vs.length ≤ 30) :
    Calls Tryz.prog 11 #[.func (.func 19) #[] #[], .string ⟨#[88, 79, 82]⟩, v] w fun e w' => e = .returned (.bool true) ∧ Below w.heap.size w w' := by
  have hrok : (rXor vs).ok := by
    unfold rXor
    split
    · exact bv_good _
    · exact doubt_ok
  refine agrees_flat _ _ vs (rXor vs) v w hr hok (by omega) hrok (fun W hW => call_Xor vs v W ((hr.below hW).more hW.size) hk hn) enter_XOR ?_
  intro _ h6 W v' hR
  have h : 0 < vs.length ∧ ∀ x ∈ vs, x.kind ≠ 6 := by
    by_cases h : 0 < vs.length ∧ ∀ x ∈ vs, x.kind ≠ 6
    · exact h
    · exfalso; apply h6; unfold rXor; rw [if_neg h]
  have e : rXor vs = bv (decide (trues vs % 2 = 1)) := by unfold rXor; rw [if_pos h]
  have hk' : ∀ x ∈ vs, x.kind = 1 ∨ x.kind = 3 := fun x hx => by have h1 := hk x hx; have h2 := h.2 x hx; omega
  refine impl_XOR vs (rXor vs) v' W hR hok (by omega) fun W f l es hI => ?_
  refine (XOR_fn vs l es f W hok hk' h.1 (by omega) hI).mono fun e' w' ⟨he, hb⟩ => ?_
  exact ⟨⟨tw (decide (trues vs % 2 = 1)), ⟨#[]⟩, true, ⟨#[]⟩, 1⟩, ⟨.inl rfl, by rw [e]; rfl, by rw [e, bv_sixteen]; exact Sx.tw _, by rw [e]; rfl⟩, he, hb⟩

set_option maxRecDepth 100000 in
set_option maxHeartbeats 1000000 in
theorem law_Xor (bs : List Bool) (v : Value) (w : World) (hr : Row w w.heap.size 1 v (bs.map fun b => [Value.bool b])) :
    Calls Tryz.prog 8 #[v] w fun e w' => e = .returned (.bool true) ∧ Below w.heap.size w w' := by
  obtain ⟨A, c, hv⟩ : ∃ A c, v = .slice A bs.length c := by
    obtain ⟨A, c, h, _⟩ := hr
    exact ⟨A, c, by rw [List.length_map] at h; exact h⟩
  subst hv
  by_cases h1 : (2147483647 : Int) < (bs.length : Int)
  · clear hr
    go_enter Tryz.func8, Tryz.ntmps8
    go_wp2
    go_ret
    exact ⟨rfl, Below.refl _ _⟩
  · by_cases h2 : (30 : Int) < (bs.length : Int)
    · clear hr
      go_enter Tryz.func8, Tryz.ntmps8
      go_wp2
      go_ret
      exact ⟨rfl, Below.refl _ _⟩
    · have HR := Lib.hid hr
      have hn : bs.length ≤ 30 := by omega
      have HA : Hid (∀ (W : World) (v' : Value), Row W W.heap.size 5 v' ((bs.map bv).map FV.list) → Calls Tryz.prog 11 #[.func (.func 19) #[] #[], .string ⟨#[88, 79, 82]⟩, v'] W fun e w' => e = .returned (.bool true) ∧ Below W.heap.size W w') := by
        intro W v' hW
        refine xor_agrees (bs.map bv) v' W hW ?_ ?_ (by rw [List.length_map]; exact hn)
        · intro x hx
          obtain ⟨b, _, rfl⟩ := List.mem_map.1 hx
          exact bv_good b
        · intro x hx
          obtain ⟨b, _, rfl⟩ := List.mem_map.1 hx
          exact .inr (.inl rfl)
      clear hr
      go_enter Tryz.func8, Tryz.ntmps8
      go_wp2_with (first
        | (go_at_call 20; refine (argTruths_any bs _ _ HR.out (by omega)).mono ?_; rintro e w1 ⟨v1, rfl, hR1, hb1⟩; have HR1 := Lib.hid hR1; clear hR1)
        | (go_at_call 11; refine (HA.out _ _ HR1.out).mono ?_; rintro e w2 ⟨rfl, hb2⟩))
      go_ret
      exact ⟨rfl, hb1.trans (hb2.mono hb1.size)⟩

set_option maxRecDepth 100000 in
set_option maxHeartbeats 1000000 in
theorem law_XorNumbers (bs : List Int) (v : Value) (w : World) (hr : Row w w.heap.size 1 v (bs.map fun n => [Value.int .i64 n])) :
    Calls Tryz.prog 9 #[v] w fun e w' => e = .returned (.bool true) ∧ Below w.heap.size w w' := by
  obtain ⟨A, c, hv⟩ : ∃ A c, v = .slice A bs.length c := by
    obtain ⟨A, c, h, _⟩ := hr
    exact ⟨A, c, by rw [List.length_map] at h; exact h⟩
  subst hv
  by_cases h1 : (2147483647 : Int) < (bs.length : Int)
  · clear hr
    go_enter Tryz.func9, Tryz.ntmps9
    go_wp2
    go_ret
    exact ⟨rfl, Below.refl _ _⟩
  · by_cases h2 : (30 : Int) < (bs.length : Int)
    · clear hr
      go_enter Tryz.func9, Tryz.ntmps9
      go_wp2
      go_ret
      exact ⟨rfl, Below.refl _ _⟩
    · have HR := Lib.hid hr
      have hn : bs.length ≤ 30 := by omega
      have HA : Hid (∀ (W : World) (v' : Value), Row W W.heap.size 5 v' ((bs.map fun n => fr (16 * n)).map FV.list) → Calls Tryz.prog 11 #[.func (.func 19) #[] #[], .string ⟨#[88, 79, 82]⟩, v'] W fun e w' => e = .returned (.bool true) ∧ Below W.heap.size W w') := by
        intro W v' hW
        refine xor_agrees (bs.map fun n => fr (16 * n)) v' W hW ?_ ?_ (by rw [List.length_map]; exact hn)
        · intro x hx
          obtain ⟨b, _, rfl⟩ := List.mem_map.1 hx
          exact fr_good _
        · intro x hx
          obtain ⟨b, _, rfl⟩ := List.mem_map.1 hx
          rcases fr_whole b with ⟨e, _, _⟩ | e <;> rw [e] <;> simp
      clear hr
      go_enter Tryz.func9, Tryz.ntmps9
      go_wp2_with (first
        | (go_at_call 21; refine (argWholes_any bs _ _ HR.out (by omega)).mono ?_; rintro e w1 ⟨v1, rfl, hR1, hb1⟩; have HR1 := Lib.hid hR1; clear hR1)
        | (go_at_call 11; refine (HA.out _ _ HR1.out).mono ?_; rintro e w2 ⟨rfl, hb2⟩))
      go_ret
      exact ⟨rfl, hb1.trans (hb2.mono hb1.size)⟩

end Go.Proofs.YtededpnjijfieaaGreatDoor
