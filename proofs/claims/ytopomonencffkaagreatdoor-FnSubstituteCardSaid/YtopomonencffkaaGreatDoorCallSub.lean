/-
SUBSTITUTE of the reference.
-/
import Derived.Test.YtopomonencffkaaGreatDoorNoSubstitute
import Derived.Test.YtopomonencffkaaGreatDoorFitS
import Derived.Test.YtopomonencffkaaGreatDoorSubS
import Derived.Test.YtopomonencffkaaGreatDoorReadN
namespace Go.Proofs.YtopomonencffkaaGreatDoor
open Go.RowKit

/-- Of which texts the reference speaks. -/
def subB (s p q : ByteArray) : Bool := (asciiB s && (asciiB p && asciiB q)) && !(p == ⟨#[]⟩)
/-- What SUBSTITUTE of three texts is. -/
def rSub3 (s p q : ByteArray) : FV := if subB s p q = true then cap (sub s p q 0) else ⟨6, 0, 0, ⟨#[]⟩⟩
/-- What SUBSTITUTE of three texts and a whole number is. -/
def rSub4 (s p q : ByteArray) (n : Int) : FV := if subB s p q = true ∧ n ≤ 1000000 then (if n < 1 then ⟨4, 0, 0, errV⟩ else cap (sub s p q n.toNat)) else ⟨6, 0, 0, ⟨#[]⟩⟩

theorem subB_pos {s p q : ByteArray} (h : subB s p q = true) : asciiB s = true ∧ asciiB p = true ∧ asciiB q = true ∧ 0 < p.size := by
  simp only [subB, Bool.and_eq_true, Bool.not_eq_true'] at h
  refine ⟨h.1.1, h.1.2.1, h.1.2.2, ?_⟩
  rcases Nat.eq_zero_or_pos p.size with h0 | h0
  · exfalso
    have hd : p.data = #[] := Array.eq_empty_of_size_eq_zero h0
    have he : p = ⟨#[]⟩ := by
      cases p
      simp at hd
      rw [hd]
    have h2 := h.2
    rw [(Go.MapKept.bytes_beq p ⟨#[]⟩).2 he] at h2
    exact absurd h2 (by simp)
  · exact h0

set_option maxRecDepth 100000 in
set_option maxHeartbeats 2000000 in
theorem callText_Substitute (r : FV) (v : Value) (w : World)
    (hP : ∀ W, Below w.heap.size w W → Calls Tryz.prog 121 #[v] W fun e w' => e = .returned (.agg #[.int .i64 r.kind, .int .i64 r.num, .int .i64 r.den, .string r.text, .slice none 0 0]) ∧ Below W.heap.size W w') :
    Calls Tryz.prog 49 #[.string ⟨#[83, 85, 66, 83, 84, 73, 84, 85, 84, 69]⟩, v] w fun e w' => e = .returned (.tuple #[.agg #[.int .i64 r.kind, .int .i64 r.num, .int .i64 r.den, .string r.text, .slice none 0 0], .bool true]) ∧ Below w.heap.size w w' := by
  have HP := Lib.hid hP
  clear hP
  go_enter Tryz.func49, Tryz.ntmps49
  go_wp2_with (go_at_call 121; refine (HP.out _ ((Below.refl _ _).alloc (Nat.le_refl _) _)).mono ?_; rintro e w1 ⟨rfl, hb1⟩; obtain ⟨c1, f1, z1, k1⟩ := box_cells (heap_new1 _ _) hb1)
  refine bodyPost_ret (v := .tuple #[.agg #[.int .i64 r.kind, .int .i64 r.num, .int .i64 r.den, .string r.text, .slice none 0 0], .bool true]) (by simp [results, Tryz.results49, go_sem, c1]) rfl ⟨rfl, ?_⟩
  have pb := below_one hb1
  clear c1 f1
  (repeat refine below_set0 ?_ _ _)
  exact pb

/-- The function of the reference, off what it takes and what it cuts. -/
theorem call_cutSubstitute (vs : List FV) (r : FV) (B : Bool) (v : Value) (w : World) (hr : Row w w.heap.size 5 v (vs.map FV.list)) (hn : vs.length ≤ 1000000) (hz : ∀ x ∈ vs, x.text.size ≤ 1000000000)
    (hF : ∀ W, Row W W.heap.size 5 v (vs.map FV.list) → Calls Tryz.prog 69 #[.string ⟨#[83, 85, 66, 83, 84, 73, 84, 85, 84, 69]⟩, v] W fun e w' => e = .returned (.tuple #[.bool B, .bool true]) ∧ Below W.heap.size W w')
    (hD : B = false → r = ⟨6, 0, 0, ⟨#[]⟩⟩)
    (hP : B = true → ∀ W, Row W W.heap.size 5 v (vs.map FV.list) → Calls Tryz.prog 121 #[v] W fun e w' => e = .returned (.agg #[.int .i64 r.kind, .int .i64 r.num, .int .i64 r.den, .string r.text, .slice none 0 0]) ∧ Below W.heap.size W w') :
    Calls Tryz.prog 17 #[.string ⟨#[83, 85, 66, 83, 84, 73, 84, 85, 84, 69]⟩, v] w fun e w' => e = .returned (.agg #[.int .i64 r.kind, .int .i64 r.num, .int .i64 r.den, .string r.text, .slice none 0 0]) ∧ Below w.heap.size w w' := by
  obtain ⟨A, c, rfl⟩ : ∃ A c, v = .slice A vs.length c := by
    obtain ⟨A, c, h, _⟩ := hr
    exact ⟨A, c, by rw [List.length_map] at h; exact h⟩
  refine call_any _ _ w _ _ _ _ _ _ _ fun W0 hW0 => ?_
  have hr0 := (hr.below hW0).more hW0.size
  have hFit : ∀ W, Below W0.heap.size W0 W → Calls Tryz.prog 44 #[.string ⟨#[83, 85, 66, 83, 84, 73, 84, 85, 84, 69]⟩, .slice A vs.length c] W fun e w' => e = .returned (.bool B) ∧ Below W.heap.size W w' := fun W hW =>
    fits_Texts _ _ W _ (fun W' hW' => fitsNumbers_Substitute A _ c W' (fun W'' hW'' => every_some vs _ W'' ((((((hr0.below hW).more hW.size).below hW').more hW'.size).below hW'').more hW''.size) hn hz))
      (fun W' hW' => hF W' ((((hr0.below hW).more hW.size).below hW').more hW'.size))
  cases B
  · rw [hD rfl]
    exact callOver_no _ _ W0 hFit
  · refine callOver_CallText _ _ W0 _ _ _ _ _ _ _ hFit ?_ ?_ ?_ ?_ ?_
    · exact fun W _ => stat_Substitute _ W
    · exact fun W _ => criteria_Substitute _ W
    · exact fun W _ => lookup_Substitute _ W
    · exact fun W _ => callMath_Substitute _ W
    · exact fun W hW => callText_Substitute r _ W fun W' hW' => hP rfl W' ((((hr0.below hW).more hW.size).below hW').more hW'.size)

theorem call_Sub3 (s p q : ByteArray) (v : Value) (w : World) (hr : Row w w.heap.size 5 v [FV.list ⟨2, 0, 0, s⟩, FV.list ⟨2, 0, 0, p⟩, FV.list ⟨2, 0, 0, q⟩]) (hs : s.size ≤ 1000000) (hp : p.size ≤ 1000000) (hq : q.size ≤ 1000000) :
    Calls Tryz.prog 17 #[.string ⟨#[83, 85, 66, 83, 84, 73, 84, 85, 84, 69]⟩, v] w fun e w' => e = .returned (.agg #[.int .i64 (rSub3 s p q).kind, .int .i64 (rSub3 s p q).num, .int .i64 (rSub3 s p q).den, .string (rSub3 s p q).text, .slice none 0 0]) ∧ Below w.heap.size w w' := by
  refine call_cutSubstitute [⟨2, 0, 0, s⟩, ⟨2, 0, 0, p⟩, ⟨2, 0, 0, q⟩] (rSub3 s p q) (subB s p q) v w hr (by simp) (by intro x hx; simp at hx; rcases hx with rfl | rfl | rfl; exact Nat.le_trans hs (by omega); exact Nat.le_trans hp (by omega); exact Nat.le_trans hq (by omega)) (fun W hR => fitsTexts_Sub3 s p q v W (by omega) (by omega) (by omega) hR) ?_ ?_
  · intro h
    unfold rSub3
    rw [if_neg (by simp [h])]
  · intro h W hR
    obtain ⟨ha, hb, hc, h0⟩ := subB_pos h
    unfold rSub3
    rw [if_pos h]
    exact substitute3 s p q v W hR ha hb hc hs hp hq h0

theorem call_Sub4 (s p q : ByteArray) (n : Int) (v : Value) (w : World) (hr : Row w w.heap.size 5 v [FV.list ⟨2, 0, 0, s⟩, FV.list ⟨2, 0, 0, p⟩, FV.list ⟨2, 0, 0, q⟩, FV.list ⟨1, n, 1, ⟨#[]⟩⟩]) (hs : s.size ≤ 1000000) (hp : p.size ≤ 1000000) (hq : q.size ≤ 1000000) (b1 : -99999999999 ≤ n) :
    Calls Tryz.prog 17 #[.string ⟨#[83, 85, 66, 83, 84, 73, 84, 85, 84, 69]⟩, v] w fun e w' => e = .returned (.agg #[.int .i64 (rSub4 s p q n).kind, .int .i64 (rSub4 s p q n).num, .int .i64 (rSub4 s p q n).den, .string (rSub4 s p q n).text, .slice none 0 0]) ∧ Below w.heap.size w w' := by
  refine call_cutSubstitute [⟨2, 0, 0, s⟩, ⟨2, 0, 0, p⟩, ⟨2, 0, 0, q⟩, ⟨1, n, 1, ⟨#[]⟩⟩] (rSub4 s p q n) _ v w hr (by simp) (by intro x hx; simp at hx; rcases hx with rfl | rfl | rfl | rfl; exact Nat.le_trans hs (by omega); exact Nat.le_trans hp (by omega); exact Nat.le_trans hq (by omega); exact Nat.zero_le _) (fun W hR => fitsTexts_Sub4 s p q ⟨1, n, 1, ⟨#[]⟩⟩ v W (by omega) (by omega) (by omega) hR (.inl rfl)) ?_ ?_
  · intro h
    unfold rSub4
    rw [if_neg (by
      intro hh
      rw [show ((asciiB s && (asciiB p && asciiB q)) && !(p == ⟨#[]⟩)) = true from hh.1] at h
      simp [btw, b1, hh.2] at h)]
  · intro h W hR
    rw [Bool.and_eq_true] at h
    have h1 : subB s p q = true := h.2
    have h2 : n ≤ 1000000 := by
      have := h.1
      simp [btw] at this
      exact this.2
    obtain ⟨ha, hb, hc, h0⟩ := subB_pos h1
    unfold rSub4
    rw [if_pos ⟨h1, h2⟩]
    by_cases h3 : n < 1
    · rw [if_pos h3]
      exact substitute4n s p q n v W hR ha hb hc hs hp hq h0 h3
    · rw [if_neg h3]
      obtain ⟨m, rfl⟩ : ∃ m : Nat, n = (m : Int) + 1 := ⟨(n - 1).toNat, by omega⟩
      rw [show ((m : Int) + 1).toNat = m + 1 by omega]
      exact substitute4 s p q m v W hR ha hb hc hs hp hq h0 (by omega)

theorem call_Sub4_no (s p q : ByteArray) (v : Value) (w : World) (hr : Row w w.heap.size 5 v [FV.list ⟨2, 0, 0, s⟩, FV.list ⟨2, 0, 0, p⟩, FV.list ⟨2, 0, 0, q⟩, FV.list ⟨6, 0, 0, ⟨#[]⟩⟩]) (hs : s.size ≤ 1000000) (hp : p.size ≤ 1000000) (hq : q.size ≤ 1000000) :
    Calls Tryz.prog 17 #[.string ⟨#[83, 85, 66, 83, 84, 73, 84, 85, 84, 69]⟩, v] w fun e w' => e = .returned (.agg #[.int .i64 6, .int .i64 0, .int .i64 0, .string ⟨#[]⟩, .slice none 0 0]) ∧ Below w.heap.size w w' :=
  call_cutSubstitute [⟨2, 0, 0, s⟩, ⟨2, 0, 0, p⟩, ⟨2, 0, 0, q⟩, ⟨6, 0, 0, ⟨#[]⟩⟩] ⟨6, 0, 0, ⟨#[]⟩⟩ _ v w hr (by simp) (by intro x hx; simp at hx; rcases hx with rfl | rfl | rfl | rfl; exact Nat.le_trans hs (by omega); exact Nat.le_trans hp (by omega); exact Nat.le_trans hq (by omega); exact Nat.zero_le _) (fun W hR => fitsTexts_Sub4 s p q ⟨6, 0, 0, ⟨#[]⟩⟩ v W (by omega) (by omega) (by omega) hR (.inr rfl)) (fun _ => rfl) (fun h => by simp at h)

end Go.Proofs.YtopomonencffkaaGreatDoor
