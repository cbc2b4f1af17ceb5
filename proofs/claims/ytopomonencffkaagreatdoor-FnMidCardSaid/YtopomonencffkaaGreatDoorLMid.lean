/-
The law FnMid: it returns true, whatever the text and the numbers.
-/
import Derived.Test.YtopomonencffkaaGreatDoorMidF
import Derived.Test.YtopomonencffkaaGreatDoorCallMid
import Derived.Test.YtopomonencffkaaGreatDoorDoor
import Derived.Test.YtopomonencffkaaGreatDoorValue
namespace Go.Proofs.YtopomonencffkaaGreatDoor
open Go.RowKit Go.Fl

/-- A text of the package is one of the reference. -/
theorem match_str (t : ByteArray) : Match ⟨2, 0, 0, t⟩ ⟨0, t, false, ⟨#[]⟩, 2⟩ := ⟨.inr (.inl rfl), rfl, Sx.zero, rfl⟩
theorem match_err (t : ByteArray) : Match ⟨4, 0, 0, t⟩ ⟨0, t, false, t, 5⟩ := ⟨.inr (.inr (.inl rfl)), rfl, Sx.zero, rfl⟩

theorem rMid_ok (s : ByteArray) (a b : Int) : (rMid s a b).ok := by
  unfold rMid
  split
  · split
    · exact error_ok _
    · split
      · exact text_ok _
      · split
        · exact text_ok _
        · exact doubt_ok
  · exact doubt_ok

theorem mid_agrees (s : ByteArray) (a b : Int) (v : Value) (w : World) (hs : s.size ≤ 1000) (hr : Row w w.heap.size 5 v [FV.list ⟨2, 0, 0, s⟩, FV.list (fr (16 * a)), FV.list (fr (16 * b))]) :
    Calls Tryz.prog 7 #[.func (.func 14) #[] #[], .string ⟨#[77, 73, 68]⟩, v] w fun e w' => e = .returned (.bool true) ∧ Below w.heap.size w w' := by
  rcases fr_whole a with ⟨ea, a1, a2⟩ | ea <;> rcases fr_whole b with ⟨eb, b1, b2⟩ | eb <;> rw [ea, eb] at hr
  · refine agrees_flat _ _ [⟨2, 0, 0, s⟩, ⟨1, a, 1, ⟨#[]⟩⟩, ⟨1, b, 1, ⟨#[]⟩⟩] (rMid s a b) v w hr (by simpa using ⟨text_ok s, whole_ok a a1 a2, whole_ok b b1 b2⟩) (by simp) (rMid_ok s a b) (fun W hW => call_Mid s a b v W ((hr.below hW).more hW.size) (by omega) a2 b2) enter_MID ?_
    intro _ h6 W v' hR
    have hm : midB s a b = true := by
      cases h : midB s a b
      · exact absurd (by unfold rMid; rw [if_neg (by simp [h])]) h6
      · rfl
    have hm2 := hm
    simp only [midB, Bool.and_eq_true, decide_eq_true_eq, bne_iff_ne] at hm2
    obtain ⟨ha, a3, b3, hne⟩ := hm2
    refine impl_MID [⟨2, 0, 0, s⟩, ⟨1, a, 1, ⟨#[]⟩⟩, ⟨1, b, 1, ⟨#[]⟩⟩] (rMid s a b) v' W hR (by simpa using ⟨text_ok s, whole_ok a a1 a2, whole_ok b b1 b2⟩) (by simp) fun W f l es hI => ?_
    by_cases h0 : a < 1 ∨ b < 0
    · have er : rMid s a b = ⟨4, 0, 0, errV⟩ := by unfold rMid; rw [if_pos hm, if_pos h0]
      rw [er]
      by_cases c0 : a < 1
      · exact (MID_neg1 s a b l es f W ha hs c0 a2 hI).mono fun e' w' ⟨he, hb⟩ => ⟨_, match_err errV, he, hb⟩
      · exact (MID_neg2 s a b l es f W ha hs (by omega) a1 (by omega) hI).mono fun e' w' ⟨he, hb⟩ => ⟨_, match_err errV, he, hb⟩
    · obtain ⟨p, rfl⟩ : ∃ p : Nat, a = (p : Int) + 1 := ⟨(a - 1).toNat, by omega⟩
      obtain ⟨q, rfl⟩ : ∃ q : Nat, b = (q : Int) := ⟨b.toNat, by omega⟩
      by_cases h1 : (s.size : Int) < (p : Int) + 1
      · have er : rMid s ((p : Int) + 1) (q : Int) = ⟨2, 0, 0, ⟨#[]⟩⟩ := by unfold rMid; rw [if_pos hm, if_neg h0, if_pos h1]
        rw [er]
        exact (MID_out s p q l es f W ha hs (by omega) (by omega) hI).mono fun e' w' ⟨he, hb⟩ => ⟨_, match_str _, he, hb⟩
      · by_cases h2 : (p : Int) + 1 - 1 + (q : Int) ≤ (s.size : Int)
        · have er : rMid s ((p : Int) + 1) (q : Int) = ⟨2, 0, 0, s.extract p (p + q)⟩ := by
            have ep : ((p : Int) + 1 - 1).toNat = p := by omega
            unfold rMid
            rw [if_pos hm, if_neg h0, if_neg h1, if_pos h2, ep, Int.toNat_natCast]
          rw [er]
          exact (MID_in s p q l es f W ha hs (by omega) (by omega) hI).mono fun e' w' ⟨he, hb⟩ => ⟨_, match_str _, he, hb⟩
        · exact absurd (by unfold rMid; rw [if_pos hm, if_neg h0, if_neg h1, if_neg h2]) h6
  · exact agrees_flat _ _ [⟨2, 0, 0, s⟩, ⟨1, a, 1, ⟨#[]⟩⟩, ⟨6, 0, 0, ⟨#[]⟩⟩] ⟨6, 0, 0, ⟨#[]⟩⟩ v w hr (by simpa using ⟨text_ok s, whole_ok a a1 a2, doubt_ok⟩) (by simp) doubt_ok (fun W hW => call_Mid_no s _ _ v W ((hr.below hW).more hW.size) (by omega) (.inl rfl) (.inr rfl) rfl rfl (.inr rfl)) enter_MID (fun hu => by simp [anyUnsure] at hu)
  · exact agrees_flat _ _ [⟨2, 0, 0, s⟩, ⟨6, 0, 0, ⟨#[]⟩⟩, ⟨1, b, 1, ⟨#[]⟩⟩] ⟨6, 0, 0, ⟨#[]⟩⟩ v w hr (by simpa using ⟨text_ok s, doubt_ok, whole_ok b b1 b2⟩) (by simp) doubt_ok (fun W hW => call_Mid_no s _ _ v W ((hr.below hW).more hW.size) (by omega) (.inr rfl) (.inl rfl) rfl rfl (.inl rfl)) enter_MID (fun hu => by simp [anyUnsure] at hu)
  · exact agrees_flat _ _ [⟨2, 0, 0, s⟩, ⟨6, 0, 0, ⟨#[]⟩⟩, ⟨6, 0, 0, ⟨#[]⟩⟩] ⟨6, 0, 0, ⟨#[]⟩⟩ v w hr (by simpa using ⟨text_ok s, doubt_ok⟩) (by simp) doubt_ok (fun W hW => call_Mid_no s _ _ v W ((hr.below hW).more hW.size) (by omega) (.inr rfl) (.inr rfl) rfl rfl (.inl rfl)) enter_MID (fun hu => by simp [anyUnsure] at hu)

set_option maxRecDepth 100000 in
theorem law_Mid (s : ByteArray) (n m : Int) (w : World) :
    Calls Tryz.prog 5 #[.string s, .int .i64 n, .int .i64 m] w fun e w' => e = .returned (.bool true) ∧ Below w.heap.size w w' := by
  by_cases hz : 2147483647 < s.size
  · have h1 : (2147483647 : Int) < (s.size : Int) := by omega
    clear hz
    go_enter Tryz.func5, Tryz.ntmps5
    go_wp2
    go_ret
    exact ⟨rfl, Below.refl _ _⟩
  · have h1 : ¬ (2147483647 : Int) < (s.size : Int) := by omega
    by_cases hs : s.size ≤ 1000
    · have HSH : Hid (shortB [s] = true) := by simp [Hid, shortB, hs]
      have hn : ∀ W, _ := fun W => argWhole_any n W
      have hm : ∀ W, _ := fun W => argWhole_any m W
      obtain ⟨x, hx⟩ : ∃ x, x = fr (16 * n) := ⟨_, rfl⟩
      obtain ⟨y, hy⟩ : ∃ y, y = fr (16 * m) := ⟨_, rfl⟩
      have HA : Hid (∀ W : World, Calls Tryz.prog 7 #[.func (.func 14) #[] #[], .string ⟨#[77, 73, 68]⟩, .slice (some ⟨W.heap.size, 0, none⟩) 3 3] (W.alloc (.cells #[.int .i64 2, .int .i64 0, .int .i64 0, .string s, .slice none 0 0, .int .i64 x.kind, .int .i64 x.num, .int .i64 x.den, .string x.text, .slice none 0 0, .int .i64 y.kind, .int .i64 y.num, .int .i64 y.den, .string y.text, .slice none 0 0] 34)) fun e w' => e = .returned (.bool true) ∧ Below (W.alloc (.cells #[.int .i64 2, .int .i64 0, .int .i64 0, .string s, .slice none 0 0, .int .i64 x.kind, .int .i64 x.num, .int .i64 x.den, .string x.text, .slice none 0 0, .int .i64 y.kind, .int .i64 y.num, .int .i64 y.den, .string y.text, .slice none 0 0] 34)).heap.size (W.alloc (.cells #[.int .i64 2, .int .i64 0, .int .i64 0, .string s, .slice none 0 0, .int .i64 x.kind, .int .i64 x.num, .int .i64 x.den, .string x.text, .slice none 0 0, .int .i64 y.kind, .int .i64 y.num, .int .i64 y.den, .string y.text, .slice none 0 0] 34)) w') := by
        rw [hx, hy]
        exact fun W => mid_agrees s n m _ _ hs (Row.lits W _ 5 [FV.list ⟨2, 0, 0, s⟩, FV.list (fr (16 * n)), FV.list (fr (16 * m))] _ rfl (by simp [FV.list]) _ rfl)
      rw [← hx] at hn
      rw [← hy] at hm
      have HN := Lib.hid hn
      have HM := Lib.hid hm
      clear hx hy hn hm hs hz
      go_enter Tryz.func5, Tryz.ntmps5
      go_wp2_with (go_at_call 10; refine (shortTexts_any [s] _ _ (Row.lit1 _ _ [.string s] _ rfl) (by simp)).mono ?_; rintro e w1 ⟨rfl, rfl⟩; rw [HSH.out])
      go_wp2_with (go_at_call 15; refine (str_any _ _).mono ?_; rintro e w1 ⟨rfl, hb1⟩; have pb1 := below_one hb1)
      refine (HN.out _).mono ?_
      rintro e w2 ⟨rfl, hb2⟩
      have pb2 := below_next pb1 pb1.size hb2
      go_wp2_with fail
      refine (HM.out _).mono ?_
      rintro e w3 ⟨rfl, hb3⟩
      have pb3 := below_next pb2 pb2.size hb3
      go_wp2_with (go_at_call 7; refine (HA.out _).mono ?_; rintro e w4 ⟨rfl, hb4⟩; have pb4 := below_box pb3 pb3.size hb4)
      go_ret
      exact ⟨rfl, pb4⟩
    · have HSH : Hid (shortB [s] = false) := by simp [Hid, shortB]; omega
      clear hs hz
      go_enter Tryz.func5, Tryz.ntmps5
      go_wp2_with (go_at_call 10; refine (shortTexts_any [s] _ _ (Row.lit1 _ _ [.string s] _ rfl) (by simp)).mono ?_; rintro e w1 ⟨rfl, rfl⟩; rw [HSH.out])
      go_ret
      exact ⟨rfl, (Below.refl _ _).alloc (Nat.le_refl _) _⟩

end Go.Proofs.YtopomonencffkaaGreatDoor
