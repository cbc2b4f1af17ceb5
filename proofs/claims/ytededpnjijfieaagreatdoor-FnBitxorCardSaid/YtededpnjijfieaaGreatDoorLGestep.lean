/-
The law FnGestep: it returns true, whatever the numbers.
-/
import Derived.Test.YtededpnjijfieaaGreatDoorGestep
import Derived.Test.YtededpnjijfieaaGreatDoorCallGestep
import Derived.Test.YtededpnjijfieaaGreatDoorDoor
namespace Go.Proofs.YtededpnjijfieaaGreatDoor
open Go.RowKit Go.Fl

theorem fr_two (m : Int) : (fr m).kind = 1 ∨ (fr m) = ⟨6, 0, 0, ⟨#[]⟩⟩ := by
  by_cases h : nn m ≤ 99999999999 ∧ -99999999999 ≤ nn m
  · rw [fr_in h]; exact .inl rfl
  · rw [fr_out h]; exact .inr rfl

/-- A literal of two elements of five cells. -/
theorem Row.lit2 (W : World) (e : TypeId) (x y : FV) (b : Nat) (hb : b = W.heap.size) :
    Row (W.alloc (.cells #[.int .i64 x.kind, .int .i64 x.num, .int .i64 x.den, .string x.text, .slice none 0 0, .int .i64 y.kind, .int .i64 y.num, .int .i64 y.den, .string y.text, .slice none 0 0] e)) (W.alloc (.cells #[.int .i64 x.kind, .int .i64 x.num, .int .i64 x.den, .string x.text, .slice none 0 0, .int .i64 y.kind, .int .i64 y.num, .int .i64 y.den, .string y.text, .slice none 0 0] e)).heap.size 5 (.slice (some ⟨b, 0, none⟩) 2 2) [FV.list x, FV.list y] := by
  subst hb
  refine ⟨_, 2, rfl, Nat.le_refl _, fun z hz => ?_, fun _ => ⟨W.heap.size, 0, rfl, by simp, fun i z hz j u hu => ?_⟩⟩
  · rcases List.mem_cons.1 hz with h | h
    · subst h; rfl
    · have : z = FV.list y := by simpa using h
      subst this; rfl
  · rw [cell_of_row _ _ _ _ _ _ (heap_alloc_new W _)]
    have hi : i = 0 ∨ i = 1 := by
      have := (List.getElem?_eq_some_iff.1 hz).1
      simp at this
      omega
    rcases hi with h | h
    · subst h
      have hzz : FV.list x = z := by simpa using hz
      subst hzz
      have hj : j < 5 := (List.getElem?_eq_some_iff.1 hu).1
      have : j = 0 ∨ j = 1 ∨ j = 2 ∨ j = 3 ∨ j = 4 := by omega
      rcases this with h | h | h | h | h <;> subst h <;> simpa using hu
    · subst h
      have hzz : FV.list y = z := by simpa using hz
      subst hzz
      have hj : j < 5 := (List.getElem?_eq_some_iff.1 hu).1
      have : j = 0 ∨ j = 1 ∨ j = 2 ∨ j = 3 ∨ j = 4 := by omega
      rcases this with h | h | h | h | h <;> subst h <;> simpa using hu

theorem gestep_iff (x y : FV) (hx : x.ok) (hy : y.ok) (h1 : x.kind = 1) (h2 : y.kind = 1) : y.six ≤ x.six ↔ y.num * x.den ≤ x.num * y.den := by
  obtain ⟨_, _, c3⟩ := hx.number h1
  obtain ⟨_, _, d3⟩ := hy.number h2
  unfold FV.six
  rw [if_pos h1, if_pos h2]
  rcases c3 with h | h | h | h | h <;> rcases d3 with h' | h' | h' | h' | h' <;> rw [h, h'] <;> simp <;> omega

theorem gestep_agrees (m k : Int) (v : Value) (w : World) (hr : Row w w.heap.size 5 v [FV.list (fr m), FV.list (fr k)]) :
    Calls Tryz.prog 11 #[.func (.func 17) #[] #[], .string ⟨#[71, 69, 83, 84, 69, 80]⟩, v] w fun e w' => e = .returned (.bool true) ∧ Below w.heap.size w w' := by
  have hok := fr_good m
  have hok' := fr_good k
  have hkk := fr_two m
  have hkk' := fr_two k
  obtain ⟨x, hx⟩ : ∃ x, x = fr m := ⟨_, rfl⟩
  obtain ⟨y, hy⟩ : ∃ y, y = fr k := ⟨_, rfl⟩
  rw [← hx] at hr hok hkk
  rw [← hy] at hr hok' hkk'
  have hall : ∀ z ∈ [x, y], z.ok := by simpa using ⟨hok, hok'⟩
  by_cases h6 : x.kind = 6 ∨ y.kind = 6
  · have n2 : x.kind ≠ 2 := by rcases hkk with h | h <;> rw [h] <;> simp
    have n2' : y.kind ≠ 2 := by rcases hkk' with h | h <;> rw [h] <;> simp
    exact agrees_flat _ _ [x, y] ⟨6, 0, 0, ⟨#[]⟩⟩ v w hr hall (by simp) doubt_ok (fun W hW => call_Gestep_no x y v W ((hr.below hW).more hW.size) n2 n2' h6) enter_GESTEP (fun hu => by rcases h6 with h | h <;> simp [anyUnsure, h] at hu)
  · have h1 : x.kind = 1 := by
      rcases hkk with h | h
      · exact h
      · exact absurd (.inl (by rw [h])) h6
    have h1' : y.kind = 1 := by
      rcases hkk' with h | h
      · exact h
      · exact absurd (.inr (by rw [h])) h6
    have hb : (if y.num * x.den ≤ x.num * y.den then (1 : Int) else 0) ≤ 99999999999 ∧ -99999999999 ≤ (if y.num * x.den ≤ x.num * y.den then (1 : Int) else 0) := by split <;> omega
    refine agrees_flat _ _ [x, y] ⟨1, if y.num * x.den ≤ x.num * y.den then 1 else 0, 1, ⟨#[]⟩⟩ v w hr hall (by simp) (whole_ok _ hb.1 hb.2) (fun W hW => call_Gestep x y v W ((hr.below hW).more hW.size) h1 h1' hok hok') enter_GESTEP ?_
    intro _ _ W v' hR
    refine impl_GESTEP [x, y] _ v' W hR hall (by simp) fun W f l es hI => ?_
    refine (GESTEP_fn x y l es f W h1 h1' hI).mono fun e' w' ⟨⟨z, hz, he⟩, hb⟩ => ?_
    refine ⟨⟨z, ⟨#[]⟩, false, ⟨#[]⟩, 1⟩, ⟨.inl rfl, rfl, ?_, rfl⟩, he, hb⟩
    rw [whole_six]
    have hi := gestep_iff x y hok hok' h1 h1'
    by_cases h : y.six ≤ x.six
    · rw [if_pos h] at hz
      rw [if_pos (hi.1 h)]
      exact hz
    · rw [if_neg h] at hz
      rw [if_neg fun q => h (hi.2 q)]
      exact hz

set_option maxRecDepth 100000 in
theorem law_Gestep (n k : Int) (w : World) :
    Calls Tryz.prog 6 #[.int .i64 n, .int .i64 k] w fun e w' => e = .returned (.bool true) ∧ Below w.heap.size w w' := by
  have hn := argPart_any n
  have hk := argPart_any k
  obtain ⟨x, hx⟩ : ∃ x, x = fr (clamp45 n) := ⟨_, rfl⟩
  obtain ⟨y, hy⟩ : ∃ y, y = fr (clamp45 k) := ⟨_, rfl⟩
  have HA : Hid (∀ W : World, Calls Tryz.prog 11 #[.func (.func 17) #[] #[], .string ⟨#[71, 69, 83, 84, 69, 80]⟩, .slice (some ⟨W.heap.size, 0, none⟩) 2 2] (W.alloc (.cells #[.int .i64 x.kind, .int .i64 x.num, .int .i64 x.den, .string x.text, .slice none 0 0, .int .i64 y.kind, .int .i64 y.num, .int .i64 y.den, .string y.text, .slice none 0 0] 26)) fun e w' => e = .returned (.bool true) ∧ Below (W.alloc (.cells #[.int .i64 x.kind, .int .i64 x.num, .int .i64 x.den, .string x.text, .slice none 0 0, .int .i64 y.kind, .int .i64 y.num, .int .i64 y.den, .string y.text, .slice none 0 0] 26)).heap.size (W.alloc (.cells #[.int .i64 x.kind, .int .i64 x.num, .int .i64 x.den, .string x.text, .slice none 0 0, .int .i64 y.kind, .int .i64 y.num, .int .i64 y.den, .string y.text, .slice none 0 0] 26)) w') := by
    rw [hx, hy]
    exact fun W => gestep_agrees _ _ _ _ (Row.lit2 W _ _ _ _ rfl)
  rw [← hx] at hn
  rw [← hy] at hk
  have HN := Lib.hid hn
  have HK := Lib.hid hk
  clear hx hy hn hk
  go_enter Tryz.func6, Tryz.ntmps6
  go_wp2_with fail
  refine (HN.out _).mono ?_
  rintro e w1 ⟨rfl, hb1⟩
  go_wp2_with fail
  refine (HK.out _).mono ?_
  rintro e w2 ⟨rfl, hb2⟩
  go_wp2_with fail
  refine (HA.out _).mono ?_
  rintro e w3 ⟨rfl, hb3⟩
  go_wp2
  go_ret
  have pb2 := hb1.trans (hb2.mono hb1.size)
  exact ⟨rfl, below_box pb2 pb2.size hb3⟩

end Go.Proofs.YtededpnjijfieaaGreatDoor
