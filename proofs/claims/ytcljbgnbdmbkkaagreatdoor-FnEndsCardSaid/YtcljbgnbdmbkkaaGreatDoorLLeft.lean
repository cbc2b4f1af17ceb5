/-
The laws FnLeft and FnEnds: they return true, whatever the text and the number.
-/
import Derived.Test.YtcljbgnbdmbkkaaGreatDoorLeft
import Derived.Test.YtcljbgnbdmbkkaaGreatDoorCallLeft
import Derived.Test.YtcljbgnbdmbkkaaGreatDoorDoor
import Derived.Test.YtcljbgnbdmbkkaaGreatDoorTwos
import Derived.Test.YtcljbgnbdmbkkaaGreatDoorValue
namespace Go.Proofs.YtcljbgnbdmbkkaaGreatDoor
open Go.RowKit Go.Fl

/-- A text of the package is one of the reference. -/
theorem match_str (t : ByteArray) : Match ⟨2, 0, 0, t⟩ ⟨0, t, false, ⟨#[]⟩, 2⟩ := ⟨.inr (.inl rfl), rfl, Sx.zero, rfl⟩
theorem match_err (t : ByteArray) : Match ⟨4, 0, 0, t⟩ ⟨0, t, false, t, 5⟩ := ⟨.inr (.inr (.inl rfl)), rfl, Sx.zero, rfl⟩

theorem rLeft_ok (s : ByteArray) (n : Int) : (rLeft s n).ok := by
  unfold rLeft
  split
  · split
    · exact error_ok _
    · exact text_ok _
  · exact doubt_ok
theorem rLeft1_ok (s : ByteArray) : (rLeft1 s).ok := by
  unfold rLeft1
  split
  · exact text_ok _
  · exact doubt_ok
theorem rRight1_ok (s : ByteArray) : (rRight1 s).ok := by
  unfold rRight1
  split
  · exact text_ok _
  · exact doubt_ok

theorem left_agrees (s : ByteArray) (n : Int) (v : Value) (w : World) (hs : s.size ≤ 1000) (hr : Row w w.heap.size 5 v [FV.list ⟨2, 0, 0, s⟩, FV.list (fr (16 * n))]) :
    Calls Tryz.prog 10 #[.func (.func 20) #[] #[], .string ⟨#[76, 69, 70, 84]⟩, v] w fun e w' => e = .returned (.bool true) ∧ Below w.heap.size w w' := by
  rcases fr_whole n with ⟨e, b1, b2⟩ | e
  · rw [e] at hr
    refine agrees_flat _ _ [⟨2, 0, 0, s⟩, ⟨1, n, 1, ⟨#[]⟩⟩] (rLeft s n) v w hr (by simpa using ⟨text_ok s, whole_ok n b1 b2⟩) (by simp) (rLeft_ok s n) (fun W hW => call_Left s n v W ((hr.below hW).more hW.size) (by omega) b1 b2) enter_LEFT ?_
    intro _ h6 W v' hR
    have ha : asciiB s = true := by
      cases h : asciiB s
      · exact absurd (by unfold rLeft; rw [if_neg (by simp [h])]) h6
      · rfl
    refine impl_LEFT [⟨2, 0, 0, s⟩, ⟨1, n, 1, ⟨#[]⟩⟩] (rLeft s n) v' W hR (by simpa using ⟨text_ok s, whole_ok n b1 b2⟩) (by simp) fun W f l es hI => ?_
    by_cases h0 : n < 0
    · have er : rLeft s n = ⟨4, 0, 0, errV⟩ := by unfold rLeft; rw [if_pos ha, if_pos h0]
      rw [er]
      exact (LEFT_neg s n l es f W ha hs h0 b2 hI).mono fun e' w' ⟨he, hb⟩ => ⟨_, match_err errV, he, hb⟩
    · have er : rLeft s n = ⟨2, 0, 0, s.extract 0 (min n.toNat s.size)⟩ := by unfold rLeft; rw [if_pos ha, if_neg h0]
      rw [er]
      exact (LEFT_two s n l es f W ha hs (by omega) b1 hI).mono fun e' w' ⟨he, hb⟩ => ⟨_, match_str _, he, hb⟩
  · rw [e] at hr
    exact agrees_flat _ _ [⟨2, 0, 0, s⟩, ⟨6, 0, 0, ⟨#[]⟩⟩] ⟨6, 0, 0, ⟨#[]⟩⟩ v w hr (by simpa using ⟨text_ok s, doubt_ok⟩) (by simp) doubt_ok (fun W hW => call_Left_no s v W ((hr.below hW).more hW.size) (by omega)) enter_LEFT (fun hu => by simp [anyUnsure] at hu)

theorem left_agrees1 (s : ByteArray) (v : Value) (w : World) (hs : s.size ≤ 1000) (hr : Row w w.heap.size 5 v [FV.list ⟨2, 0, 0, s⟩]) :
    Calls Tryz.prog 10 #[.func (.func 20) #[] #[], .string ⟨#[76, 69, 70, 84]⟩, v] w fun e w' => e = .returned (.bool true) ∧ Below w.heap.size w w' := by
  refine agrees_flat _ _ [⟨2, 0, 0, s⟩] (rLeft1 s) v w hr (by simpa using text_ok s) (by simp) (rLeft1_ok s) (fun W hW => call_Left1 s v W ((hr.below hW).more hW.size) (by omega)) enter_LEFT ?_
  intro _ h6 W v' hR
  have ha : asciiB s = true := by
    cases h : asciiB s
    · exact absurd (by unfold rLeft1; rw [if_neg (by simp [h])]) h6
    · rfl
  refine impl_LEFT [⟨2, 0, 0, s⟩] (rLeft1 s) v' W hR (by simpa using text_ok s) (by simp) fun W f l es hI => ?_
  have er : rLeft1 s = ⟨2, 0, 0, s.extract 0 (min 1 s.size)⟩ := by unfold rLeft1; rw [if_pos ha]
  rw [er]
  exact (LEFT_one s l es f W ha hs hI).mono fun e' w' ⟨he, hb⟩ => ⟨_, match_str _, he, hb⟩

theorem right_agrees1 (s : ByteArray) (v : Value) (w : World) (hs : s.size ≤ 1000) (hr : Row w w.heap.size 5 v [FV.list ⟨2, 0, 0, s⟩]) :
    Calls Tryz.prog 10 #[.func (.func 22) #[] #[], .string ⟨#[82, 73, 71, 72, 84]⟩, v] w fun e w' => e = .returned (.bool true) ∧ Below w.heap.size w w' := by
  refine agrees_flat _ _ [⟨2, 0, 0, s⟩] (rRight1 s) v w hr (by simpa using text_ok s) (by simp) (rRight1_ok s) (fun W hW => call_Right1 s v W ((hr.below hW).more hW.size) (by omega)) enter_RIGHT ?_
  intro _ h6 W v' hR
  have ha : asciiB s = true := by
    cases h : asciiB s
    · exact absurd (by unfold rRight1; rw [if_neg (by simp [h])]) h6
    · rfl
  refine impl_RIGHT [⟨2, 0, 0, s⟩] (rRight1 s) v' W hR (by simpa using text_ok s) (by simp) fun W f l es hI => ?_
  have er : rRight1 s = ⟨2, 0, 0, s.extract (s.size - min 1 s.size) s.size⟩ := by unfold rRight1; rw [if_pos ha]
  rw [er]
  exact (RIGHT_one s l es f W ha hs hI).mono fun e' w' ⟨he, hb⟩ => ⟨_, match_str _, he, hb⟩

set_option maxRecDepth 100000 in
theorem law_Left (s : ByteArray) (n : Int) (w : World) :
    Calls Tryz.prog 6 #[.string s, .int .i64 n] w fun e w' => e = .returned (.bool true) ∧ Below w.heap.size w w' := by
  by_cases hz : 2147483647 < s.size
  · have h1 : (2147483647 : Int) < (s.size : Int) := by omega
    clear hz
    go_enter Tryz.func6, Tryz.ntmps6
    go_wp2
    go_ret
    exact ⟨rfl, Below.refl _ _⟩
  · have h1 : ¬ (2147483647 : Int) < (s.size : Int) := by omega
    by_cases hs : s.size ≤ 1000
    · have HSH : Hid (shortB [s] = true) := by simp [Hid, shortB, hs]
      have hn : ∀ W, _ := fun W => argWhole_any n W
      obtain ⟨x, hx⟩ : ∃ x, x = fr (16 * n) := ⟨_, rfl⟩
      have HA : Hid (∀ W : World, Calls Tryz.prog 10 #[.func (.func 20) #[] #[], .string ⟨#[76, 69, 70, 84]⟩, .slice (some ⟨W.heap.size, 0, none⟩) 2 2] (W.alloc (.cells #[.int .i64 2, .int .i64 0, .int .i64 0, .string s, .slice none 0 0, .int .i64 x.kind, .int .i64 x.num, .int .i64 x.den, .string x.text, .slice none 0 0] 31)) fun e w' => e = .returned (.bool true) ∧ Below (W.alloc (.cells #[.int .i64 2, .int .i64 0, .int .i64 0, .string s, .slice none 0 0, .int .i64 x.kind, .int .i64 x.num, .int .i64 x.den, .string x.text, .slice none 0 0] 31)).heap.size (W.alloc (.cells #[.int .i64 2, .int .i64 0, .int .i64 0, .string s, .slice none 0 0, .int .i64 x.kind, .int .i64 x.num, .int .i64 x.den, .string x.text, .slice none 0 0] 31)) w') := by
        rw [hx]
        exact fun W => left_agrees s n _ _ hs (Row.lits W _ 5 [FV.list ⟨2, 0, 0, s⟩, FV.list (fr (16 * n))] _ rfl (by simp [FV.list]) _ rfl)
      rw [← hx] at hn
      have HN := Lib.hid hn
      clear hx hn hs hz
      go_enter Tryz.func6, Tryz.ntmps6
      go_wp2_with (go_at_call 16; refine (shortTexts_any [s] _ _ (Row.lit1 _ _ [.string s] _ rfl) (by simp)).mono ?_; rintro e w1 ⟨rfl, rfl⟩; rw [HSH.out])
      go_wp2_with (first
        | (go_at_call 21; refine (str_any _ _).mono ?_; rintro e w1 ⟨rfl, hb1⟩; have pb1 := below_one hb1)
        | (go_at_call 18; refine (HN.out _).mono ?_; rintro e w2 ⟨rfl, hb2⟩; have pb2 := below_next pb1 pb1.size hb2)
        | (go_at_call 10; refine (HA.out _).mono ?_; rintro e w3 ⟨rfl, hb3⟩; have pb3 := below_box pb2 pb2.size hb3))
      go_ret
      exact ⟨rfl, pb3⟩
    · have HSH : Hid (shortB [s] = false) := by simp [Hid, shortB]; omega
      clear hs hz
      go_enter Tryz.func6, Tryz.ntmps6
      go_wp2_with (go_at_call 16; refine (shortTexts_any [s] _ _ (Row.lit1 _ _ [.string s] _ rfl) (by simp)).mono ?_; rintro e w1 ⟨rfl, rfl⟩; rw [HSH.out])
      go_ret
      exact ⟨rfl, (Below.refl _ _).alloc (Nat.le_refl _) _⟩

set_option maxRecDepth 100000 in
theorem law_Ends (s : ByteArray) (w : World) :
    Calls Tryz.prog 7 #[.string s] w fun e w' => e = .returned (.bool true) ∧ Below w.heap.size w w' := by
  by_cases hz : 2147483647 < s.size
  · have h1 : (2147483647 : Int) < (s.size : Int) := by omega
    clear hz
    go_enter Tryz.func7, Tryz.ntmps7
    go_wp2
    go_ret
    exact ⟨rfl, Below.refl _ _⟩
  · have h1 : ¬ (2147483647 : Int) < (s.size : Int) := by omega
    by_cases hs : s.size ≤ 1000
    · have HSH : Hid (shortB [s] = true) := by simp [Hid, shortB, hs]
      have HR : Hid (∀ W : World, Row (W.alloc (.cells #[.int .i64 2, .int .i64 0, .int .i64 0, .string s, .slice none 0 0] 31)) (W.alloc (.cells #[.int .i64 2, .int .i64 0, .int .i64 0, .string s, .slice none 0 0] 31)).heap.size 5 (.slice (some ⟨W.heap.size, 0, none⟩) 1 1) [FV.list ⟨2, 0, 0, s⟩]) := fun W => Row.lit1 W _ (FV.list ⟨2, 0, 0, s⟩) _ rfl
      have HS : Hid (s.size ≤ 1000) := hs
      clear hs hz
      go_enter Tryz.func7, Tryz.ntmps7
      go_wp2_with (go_at_call 16; refine (shortTexts_any [s] _ _ (Row.lit1 _ _ [.string s] _ rfl) (by simp)).mono ?_; rintro e w1 ⟨rfl, rfl⟩; rw [HSH.out])
      go_wp2_with fail
      refine (str_any _ _).mono ?_
      rintro e w1 ⟨rfl, hb1⟩
      have pb1 := below_one hb1
      go_wp2_with fail
      refine (left_agrees1 s _ _ HS.out (HR.out _)).mono ?_
      rintro e w2 ⟨rfl, hb2⟩
      have pb2 := below_box pb1 pb1.size hb2
      go_wp2_with fail
      refine (str_any _ _).mono ?_
      rintro e w3 ⟨rfl, hb3⟩
      have pb3 := below_next pb2 pb2.size hb3
      go_wp2_with fail
      refine (right_agrees1 s _ _ HS.out (HR.out _)).mono ?_
      rintro e w4 ⟨rfl, hb4⟩
      have pb4 := below_box pb3 pb3.size hb4
      go_wp2
      go_ret
      exact ⟨rfl, pb4⟩
    · have HSH : Hid (shortB [s] = false) := by simp [Hid, shortB]; omega
      clear hs hz
      go_enter Tryz.func7, Tryz.ntmps7
      go_wp2_with (go_at_call 16; refine (shortTexts_any [s] _ _ (Row.lit1 _ _ [.string s] _ rfl) (by simp)).mono ?_; rintro e w1 ⟨rfl, rfl⟩; rw [HSH.out])
      go_ret
      exact ⟨rfl, (Below.refl _ _).alloc (Nat.le_refl _) _⟩

end Go.Proofs.YtcljbgnbdmbkkaaGreatDoor

