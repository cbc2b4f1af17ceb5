/-
The law FnSubstitute: it returns true, whatever the texts and the number.
-/
import Derived.Test.YtopomonencffkaaGreatDoorSubH
import Derived.Test.YtopomonencffkaaGreatDoorCallSub
import Derived.Test.YtopomonencffkaaGreatDoorArgsT
import Derived.Test.YtopomonencffkaaGreatDoorDoor
import Derived.Test.YtopomonencffkaaGreatDoorValue
namespace Go.Proofs.YtopomonencffkaaGreatDoor
open Go.RowKit Go.Fl

/-- A text of the package is one of the reference. -/
theorem match_str (t : ByteArray) : Match ⟨2, 0, 0, t⟩ ⟨0, t, false, ⟨#[]⟩, 2⟩ := ⟨.inr (.inl rfl), rfl, Sx.zero, rfl⟩
theorem match_err (t u : ByteArray) : Match ⟨4, 0, 0, t⟩ ⟨0, t, false, u, 5⟩ := ⟨.inr (.inr (.inl rfl)), rfl, Sx.zero, rfl⟩

theorem cap_ok (R : ByteArray) : (cap R).ok := by
  unfold cap
  split
  · exact doubt_ok
  · exact text_ok _
theorem rSub3_ok (s p q : ByteArray) : (rSub3 s p q).ok := by
  unfold rSub3
  split
  · exact cap_ok _
  · exact doubt_ok
theorem rSub4_ok (s p q : ByteArray) (n : Int) : (rSub4 s p q n).ok := by
  unfold rSub4
  split
  · split
    · exact error_ok _
    · exact cap_ok _
  · exact doubt_ok
theorem cap_some {R : ByteArray} (h : (cap R).kind ≠ 6) : cap R = ⟨2, 0, 0, R⟩ ∧ R.size ≤ 20000 := by
  unfold cap at h ⊢
  split at h
  · exact absurd rfl h
  · next h0 => exact ⟨by rw [if_neg h0], by omega⟩

theorem sub_agrees3 (s p q : ByteArray) (v : Value) (w : World) (hs : s.size ≤ 1000) (hp : p.size ≤ 1000) (hq : q.size ≤ 1000) (hr : Row w w.heap.size 5 v [FV.list ⟨2, 0, 0, s⟩, FV.list ⟨2, 0, 0, p⟩, FV.list ⟨2, 0, 0, q⟩]) :
    Calls Tryz.prog 7 #[.func (.func 13) #[] #[], .string ⟨#[83, 85, 66, 83, 84, 73, 84, 85, 84, 69]⟩, v] w fun e w' => e = .returned (.bool true) ∧ Below w.heap.size w w' := by
  refine agrees_flat _ _ [⟨2, 0, 0, s⟩, ⟨2, 0, 0, p⟩, ⟨2, 0, 0, q⟩] (rSub3 s p q) v w hr (by simpa using ⟨text_ok s, text_ok p, text_ok q⟩) (by simp) (rSub3_ok s p q) (fun W hW => call_Sub3 s p q v W ((hr.below hW).more hW.size) (by omega) (by omega) (by omega)) enter_SUBSTITUTE ?_
  intro _ h6 W v' hR
  have hm : subB s p q = true := by
    cases h : subB s p q
    · exact absurd (by unfold rSub3; rw [if_neg (by simp [h])]) h6
    · rfl
  obtain ⟨_, _, _, h0⟩ := subB_pos hm
  have er : rSub3 s p q = cap (sub s p q 0) := by unfold rSub3; rw [if_pos hm]
  rw [er] at h6
  obtain ⟨e2, hz⟩ := cap_some h6
  rw [er, e2]
  exact impl_SUBSTITUTE [⟨2, 0, 0, s⟩, ⟨2, 0, 0, p⟩, ⟨2, 0, 0, q⟩] ⟨2, 0, 0, sub s p q 0⟩ v' W hR (by simpa using ⟨text_ok s, text_ok p, text_ok q⟩) (by simp) fun W f l es hI =>
    (SUB_all s p q l es f W hs hp hq h0 hz hI).mono fun e' w' ⟨he, hb⟩ => ⟨_, match_str _, he, hb⟩

theorem sub_agrees4 (s p q : ByteArray) (n : Int) (v : Value) (w : World) (hs : s.size ≤ 1000) (hp : p.size ≤ 1000) (hq : q.size ≤ 1000) (hr : Row w w.heap.size 5 v [FV.list ⟨2, 0, 0, s⟩, FV.list ⟨2, 0, 0, p⟩, FV.list ⟨2, 0, 0, q⟩, FV.list (fr (16 * n))]) :
    Calls Tryz.prog 7 #[.func (.func 13) #[] #[], .string ⟨#[83, 85, 66, 83, 84, 73, 84, 85, 84, 69]⟩, v] w fun e w' => e = .returned (.bool true) ∧ Below w.heap.size w w' := by
  rcases fr_whole n with ⟨e, b1, b2⟩ | e <;> rw [e] at hr
  · refine agrees_flat _ _ [⟨2, 0, 0, s⟩, ⟨2, 0, 0, p⟩, ⟨2, 0, 0, q⟩, ⟨1, n, 1, ⟨#[]⟩⟩] (rSub4 s p q n) v w hr (by simpa using ⟨text_ok s, text_ok p, text_ok q, whole_ok n b1 b2⟩) (by simp) (rSub4_ok s p q n) (fun W hW => call_Sub4 s p q n v W ((hr.below hW).more hW.size) (by omega) (by omega) (by omega) b2) enter_SUBSTITUTE ?_
    intro _ h6 W v' hR
    have hm : subB s p q = true ∧ n ≤ 1000000 := by
      by_cases h : subB s p q = true ∧ n ≤ 1000000
      · exact h
      · exact absurd (by unfold rSub4; rw [if_neg h]) h6
    obtain ⟨_, _, _, h0⟩ := subB_pos hm.1
    refine impl_SUBSTITUTE [⟨2, 0, 0, s⟩, ⟨2, 0, 0, p⟩, ⟨2, 0, 0, q⟩, ⟨1, n, 1, ⟨#[]⟩⟩] (rSub4 s p q n) v' W hR (by simpa using ⟨text_ok s, text_ok p, text_ok q, whole_ok n b1 b2⟩) (by simp) fun W f l es hI => ?_
    by_cases h3 : n < 1
    · have er : rSub4 s p q n = ⟨4, 0, 0, errV⟩ := by unfold rSub4; rw [if_pos hm, if_pos h3]
      rw [er]
      exact (SUB_neg s p q n l es f W hs hp hq h0 h3 b2 hI).mono fun e' w' ⟨he, hb⟩ => ⟨_, match_err _ _, he, hb⟩
    · obtain ⟨m, rfl⟩ : ∃ m : Nat, n = (m : Int) + 1 := ⟨(n - 1).toNat, by omega⟩
      have er : rSub4 s p q ((m : Int) + 1) = cap (sub s p q (m + 1)) := by
        unfold rSub4
        rw [if_pos hm, if_neg h3, show ((m : Int) + 1).toNat = m + 1 by omega]
      rw [er] at h6 ⊢
      obtain ⟨e2, hz⟩ := cap_some h6
      rw [e2]
      exact (SUB_one s p q m l es f W hs hp hq h0 (by omega) hI).mono fun e' w' ⟨he, hb⟩ => ⟨_, match_str _, he, hb⟩
  · exact agrees_flat _ _ [⟨2, 0, 0, s⟩, ⟨2, 0, 0, p⟩, ⟨2, 0, 0, q⟩, ⟨6, 0, 0, ⟨#[]⟩⟩] ⟨6, 0, 0, ⟨#[]⟩⟩ v w hr (by simpa using ⟨text_ok s, text_ok p, text_ok q, doubt_ok⟩) (by simp) doubt_ok (fun W hW => call_Sub4_no s p q v W ((hr.below hW).more hW.size) (by omega) (by omega) (by omega)) enter_SUBSTITUTE (fun hu => by simp [anyUnsure] at hu)

set_option maxRecDepth 100000 in
set_option maxHeartbeats 2000000 in
theorem law_Substitute (s p q : ByteArray) (n : Int) (w : World) :
    Calls Tryz.prog 4 #[.string s, .string p, .string q, .int .i64 n] w fun e w' => e = .returned (.bool true) ∧ Below w.heap.size w w' := by
  by_cases hz : 2147483647 < s.size
  · have h1 : (2147483647 : Int) < (s.size : Int) := by omega
    clear hz
    go_enter Tryz.func4, Tryz.ntmps4
    go_wp2
    go_ret
    exact ⟨rfl, Below.refl _ _⟩
  have h1 : ¬ (2147483647 : Int) < (s.size : Int) := by omega
  clear hz
  by_cases hz : 2147483647 < p.size
  · have h2 : (2147483647 : Int) < (p.size : Int) := by omega
    clear hz
    go_enter Tryz.func4, Tryz.ntmps4
    go_wp2
    go_ret
    exact ⟨rfl, Below.refl _ _⟩
  have h2 : ¬ (2147483647 : Int) < (p.size : Int) := by omega
  clear hz
  by_cases hz : 2147483647 < q.size
  · have h3 : (2147483647 : Int) < (q.size : Int) := by omega
    clear hz
    go_enter Tryz.func4, Tryz.ntmps4
    go_wp2
    go_ret
    exact ⟨rfl, Below.refl _ _⟩
  have h3 : ¬ (2147483647 : Int) < (q.size : Int) := by omega
  clear hz
  have HRW : Hid (∀ (W : World) (b : Nat), b = W.heap.size → Row (W.alloc (.cells #[.string s, .string p, .string q] 9)) (W.alloc (.cells #[.string s, .string p, .string q] 9)).heap.size 1 (.slice (some ⟨b, 0, none⟩) 3 3) ([s, p, q].map fun s => [Value.string s])) := fun W b hb => Row.lits W _ 1 [[.string s], [.string p], [.string q]] b hb (by simp) _ rfl
  by_cases hs : s.size ≤ 1000 ∧ p.size ≤ 1000 ∧ q.size ≤ 1000
  · have HSH : Hid (shortB [s, p, q] = true) := by simp [Hid, shortB, hs]
    obtain ⟨hs, hp, hq⟩ := hs
    by_cases hn : n = 0
    · subst hn
      have HA : Hid (∀ (W : World) (v : Value), Row W W.heap.size 5 v [FV.list ⟨2, 0, 0, s⟩, FV.list ⟨2, 0, 0, p⟩, FV.list ⟨2, 0, 0, q⟩] → Calls Tryz.prog 7 #[.func (.func 13) #[] #[], .string ⟨#[83, 85, 66, 83, 84, 73, 84, 85, 84, 69]⟩, v] W fun e w' => e = .returned (.bool true) ∧ Below W.heap.size W w') := fun W v hR => sub_agrees3 s p q v W hs hp hq hR
      clear hs hp hq
      go_enter Tryz.func4, Tryz.ntmps4
      go_wp2_with (go_at_call 10; refine (shortTexts_any [s, p, q] _ _ (HRW.out _ _ (by simp)) (by simp)).mono ?_; rintro e w1 ⟨rfl, rfl⟩; rw [HSH.out])
      refine (argTexts_any [s, p, q] _ _ (HRW.out _ _ (by simp)) (by simp)).mono ?_
      rintro e w2 ⟨v2, rfl, hO2, hb2⟩
      have pb2 : Below w.heap.size w ((w.alloc (.cells #[.string s, .string p, .string q] 9)).alloc (.cells #[.string s, .string p, .string q] 9)) := ((Below.refl w.heap.size w).alloc (Nat.le_refl _) _).alloc (by simp) _
      have pb3 := pb2.trans (hb2.mono pb2.size)
      have hR2 : Row w2 w2.heap.size 5 v2 [FV.list ⟨2, 0, 0, s⟩, FV.list ⟨2, 0, 0, p⟩, FV.list ⟨2, 0, 0, q⟩] := hO2.row
      go_wp2_with (first
        | (go_at_call 7; refine (HA.out w2 v2 hR2).mono ?_; rintro e w4 ⟨rfl, hb4⟩; have pb4 := below_next pb3 pb3.size hb4))
      go_ret
      exact ⟨rfl, pb4⟩
    · have HA : Hid (∀ (W : World) (v : Value), Row W W.heap.size 5 v [FV.list ⟨2, 0, 0, s⟩, FV.list ⟨2, 0, 0, p⟩, FV.list ⟨2, 0, 0, q⟩, FV.list (fr (16 * n))] → Calls Tryz.prog 7 #[.func (.func 13) #[] #[], .string ⟨#[83, 85, 66, 83, 84, 73, 84, 85, 84, 69]⟩, v] W fun e w' => e = .returned (.bool true) ∧ Below W.heap.size W w') := fun W v hR => sub_agrees4 s p q n v W hs hp hq hR
      have hm : ∀ W, _ := fun W => argWhole_any n W
      obtain ⟨x, hx⟩ : ∃ x, x = fr (16 * n) := ⟨_, rfl⟩
      rw [← hx] at hm HA
      have HM := Lib.hid hm
      clear hs hp hq hx hm
      go_enter Tryz.func4, Tryz.ntmps4
      go_wp2_with (go_at_call 10; refine (shortTexts_any [s, p, q] _ _ (HRW.out _ _ (by simp)) (by simp)).mono ?_; rintro e w1 ⟨rfl, rfl⟩; rw [HSH.out])
      refine (argTexts_any [s, p, q] _ _ (HRW.out _ _ (by simp)) (by simp)).mono ?_
      rintro e w2 ⟨v2, rfl, hO2, hb2⟩
      have pb2 : Below w.heap.size w ((w.alloc (.cells #[.string s, .string p, .string q] 9)).alloc (.cells #[.string s, .string p, .string q] 9)) := ((Below.refl w.heap.size w).alloc (Nat.le_refl _) _).alloc (by simp) _
      have pb3 := pb2.trans (hb2.mono pb2.size)
      go_wp2_with (first
        | (go_at_call 12; refine (HM.out _).mono ?_; rintro e w4 ⟨rfl, hb4⟩; have pb4 := below_next pb3 pb3.size hb4)
        | (at_builtin; refine app_one (w0 := _) _ rfl (.tmp 36) (.tmp 39) 26 34 _ 5 64 rfl Tryz.underlying26 valInfo rfl (by omega) (by omega) _ _ (FV.list x) rfl rfl rfl (by simp [FV.list, Value.oneCell']) (by simp) (hO2.below hb4) (hb2.trans (hb4.mono hb2.size)) (Nat.le_trans hb2.size hb4.size) (by simp) ?_; intro v5 w5 hO5 hb5 _; have hR5 : Row w5 w5.heap.size 5 v5 [FV.list ⟨2, 0, 0, s⟩, FV.list ⟨2, 0, 0, p⟩, FV.list ⟨2, 0, 0, q⟩, FV.list x] := hO5.row)
        | (go_at_call 7; refine (HA.out w5 v5 hR5).mono ?_; rintro e w6 ⟨rfl, hb6⟩; have pb5 := pb2.trans (hb5.mono pb2.size); have pb6 := below_next pb5 pb5.size hb6))
      go_ret
      exact ⟨rfl, pb6⟩
  · have HSH : Hid (shortB [s, p, q] = false) := by
      simp [Hid, shortB]
      omega
    clear hs
    go_enter Tryz.func4, Tryz.ntmps4
    go_wp2_with (go_at_call 10; refine (shortTexts_any [s, p, q] _ _ (HRW.out _ _ (by simp)) (by simp)).mono ?_; rintro e w1 ⟨rfl, rfl⟩; rw [HSH.out])
    go_ret
    exact ⟨rfl, (Below.refl _ _).alloc (Nat.le_refl _) _⟩

end Go.Proofs.YtopomonencffkaaGreatDoor
