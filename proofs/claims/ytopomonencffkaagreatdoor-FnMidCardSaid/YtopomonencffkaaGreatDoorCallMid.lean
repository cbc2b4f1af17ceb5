/-
MID of the reference.
-/
import Derived.Test.YtopomonencffkaaGreatDoorNoMid
import Derived.Test.YtopomonencffkaaGreatDoorFitM
import Derived.Test.YtopomonencffkaaGreatDoorCutM
import Derived.Test.YtopomonencffkaaGreatDoorRunes
import Derived.Test.YtopomonencffkaaGreatDoorReadN
namespace Go.Proofs.YtopomonencffkaaGreatDoor
open Go.RowKit

/-- Of which texts and numbers the reference speaks. -/
def midB (s : ByteArray) (a b : Int) : Bool := asciiB s && (decide (a ≤ 1000000) && (decide (b ≤ 1000000) && (a + b - 2 != (s.size : Int))))
/-- What MID of a text and two whole numbers is. -/
def rMid (s : ByteArray) (a b : Int) : FV :=
  if midB s a b = true then
    (if a < 1 ∨ b < 0 then ⟨4, 0, 0, errV⟩
     else if (s.size : Int) < a then ⟨2, 0, 0, ⟨#[]⟩⟩
     else if a - 1 + b ≤ (s.size : Int) then ⟨2, 0, 0, s.extract (a - 1).toNat ((a - 1).toNat + b.toNat)⟩
     else ⟨6, 0, 0, ⟨#[]⟩⟩)
  else ⟨6, 0, 0, ⟨#[]⟩⟩

theorem extract_none (s : ByteArray) : s.extract s.size s.size = ⟨#[]⟩ := by
  rw [← extract_list s s.size s.size, List.drop_take, Nat.sub_self, List.take_zero]

set_option maxRecDepth 100000 in
set_option maxHeartbeats 2000000 in
theorem callText_Mid (r : FV) (v : Value) (w : World)
    (hP : ∀ W, Below w.heap.size w W → Calls Tryz.prog 116 #[.string ⟨#[77, 73, 68]⟩, v] W fun e w' => e = .returned (.agg #[.int .i64 r.kind, .int .i64 r.num, .int .i64 r.den, .string r.text, .slice none 0 0]) ∧ Below W.heap.size W w') :
    Calls Tryz.prog 49 #[.string ⟨#[77, 73, 68]⟩, v] w fun e w' => e = .returned (.tuple #[.agg #[.int .i64 r.kind, .int .i64 r.num, .int .i64 r.den, .string r.text, .slice none 0 0], .bool true]) ∧ Below w.heap.size w w' := by
  have HP := Lib.hid hP
  clear hP
  go_enter Tryz.func49, Tryz.ntmps49
  go_wp2_with (go_at_call 116; refine (HP.out _ ((Below.refl _ _).alloc (Nat.le_refl _) _)).mono ?_; rintro e w1 ⟨rfl, hb1⟩; obtain ⟨c1, f1, z1, k1⟩ := box_cells (heap_new1 _ _) hb1)
  refine bodyPost_ret (v := .tuple #[.agg #[.int .i64 r.kind, .int .i64 r.num, .int .i64 r.den, .string r.text, .slice none 0 0], .bool true]) (by simp [results, Tryz.results49, go_sem, c1]) rfl ⟨rfl, ?_⟩
  have pb := below_one hb1
  clear c1 f1
  (repeat refine below_set0 ?_ _ _)
  exact pb

/-- The function of the reference, off what it takes and what it cuts. -/
theorem call_cutMid (vs : List FV) (r : FV) (B : Bool) (v : Value) (w : World) (hr : Row w w.heap.size 5 v (vs.map FV.list)) (hn : vs.length ≤ 1000000) (hz : ∀ x ∈ vs, x.text.size ≤ 1000000000)
    (hF : ∀ W, Row W W.heap.size 5 v (vs.map FV.list) → Calls Tryz.prog 69 #[.string ⟨#[77, 73, 68]⟩, v] W fun e w' => e = .returned (.tuple #[.bool B, .bool true]) ∧ Below W.heap.size W w')
    (hD : B = false → r = ⟨6, 0, 0, ⟨#[]⟩⟩)
    (hP : B = true → ∀ W, Row W W.heap.size 5 v (vs.map FV.list) → Calls Tryz.prog 116 #[.string ⟨#[77, 73, 68]⟩, v] W fun e w' => e = .returned (.agg #[.int .i64 r.kind, .int .i64 r.num, .int .i64 r.den, .string r.text, .slice none 0 0]) ∧ Below W.heap.size W w') :
    Calls Tryz.prog 17 #[.string ⟨#[77, 73, 68]⟩, v] w fun e w' => e = .returned (.agg #[.int .i64 r.kind, .int .i64 r.num, .int .i64 r.den, .string r.text, .slice none 0 0]) ∧ Below w.heap.size w w' := by
  obtain ⟨A, c, rfl⟩ : ∃ A c, v = .slice A vs.length c := by
    obtain ⟨A, c, h, _⟩ := hr
    exact ⟨A, c, by rw [List.length_map] at h; exact h⟩
  refine call_any _ _ w _ _ _ _ _ _ _ fun W0 hW0 => ?_
  have hr0 := (hr.below hW0).more hW0.size
  have hFit : ∀ W, Below W0.heap.size W0 W → Calls Tryz.prog 44 #[.string ⟨#[77, 73, 68]⟩, .slice A vs.length c] W fun e w' => e = .returned (.bool B) ∧ Below W.heap.size W w' := fun W hW =>
    fits_Texts _ _ W _ (fun W' hW' => fitsNumbers_Mid A _ c W' (fun W'' hW'' => every_some vs _ W'' ((((((hr0.below hW).more hW.size).below hW').more hW'.size).below hW'').more hW''.size) hn hz))
      (fun W' hW' => hF W' ((((hr0.below hW).more hW.size).below hW').more hW'.size))
  cases B
  · rw [hD rfl]
    exact callOver_no _ _ W0 hFit
  · refine callOver_CallText _ _ W0 _ _ _ _ _ _ _ hFit ?_ ?_ ?_ ?_ ?_
    · exact fun W _ => stat_Mid _ W
    · exact fun W _ => criteria_Mid _ W
    · exact fun W _ => lookup_Mid _ W
    · exact fun W _ => callMath_Mid _ W
    · exact fun W hW => callText_Mid r _ W fun W' hW' => hP rfl W' ((((hr0.below hW).more hW.size).below hW').more hW'.size)

theorem call_Mid (s : ByteArray) (a b : Int) (v : Value) (w : World) (hr : Row w w.heap.size 5 v [FV.list ⟨2, 0, 0, s⟩, FV.list ⟨1, a, 1, ⟨#[]⟩⟩, FV.list ⟨1, b, 1, ⟨#[]⟩⟩]) (hs : s.size ≤ 1000000) (a1 : -99999999999 ≤ a) (b1 : -99999999999 ≤ b) :
    Calls Tryz.prog 17 #[.string ⟨#[77, 73, 68]⟩, v] w fun e w' => e = .returned (.agg #[.int .i64 (rMid s a b).kind, .int .i64 (rMid s a b).num, .int .i64 (rMid s a b).den, .string (rMid s a b).text, .slice none 0 0]) ∧ Below w.heap.size w w' := by
  refine call_cutMid [⟨2, 0, 0, s⟩, ⟨1, a, 1, ⟨#[]⟩⟩, ⟨1, b, 1, ⟨#[]⟩⟩] (rMid s a b) _ v w hr (by simp) (by intro x hx; simp at hx; rcases hx with rfl | rfl | rfl; exact Nat.le_trans hs (by omega); exact Nat.zero_le _; exact Nat.zero_le _) (fun W hR => fitsTexts_Mid s ⟨1, a, 1, ⟨#[]⟩⟩ ⟨1, b, 1, ⟨#[]⟩⟩ v W (by omega) hR (.inl rfl) (.inl rfl)) ?_ ?_
  · intro h
    unfold rMid
    rw [if_neg (by simpa [midB, btw, a1, b1] using h)]
  · intro h W hR
    have hm : midB s a b = true := by simpa [midB, btw, a1, b1] using h
    have hm2 := hm
    simp only [midB, Bool.and_eq_true, decide_eq_true_eq, bne_iff_ne] at hm2
    obtain ⟨ha, a2, b2, hne⟩ := hm2
    have hz : s.size ≤ 1000000000 := by omega
    unfold rMid
    rw [if_pos hm]
    by_cases h0 : a < 1 ∨ b < 0
    · rw [if_pos h0]
      by_cases c0 : a < 0
      · exact cut_midNeg1 s a b v W hR ha hz c0
      · by_cases c1 : b < 0
        · exact cut_midNeg2 s a b v W hR ha hz (by omega) c1
        · obtain rfl : a = 0 := by omega
          obtain ⟨q, rfl⟩ : ∃ q : Nat, b = (q : Int) := ⟨b.toNat, by omega⟩
          exact cut_midZero s q v W hR ha hz
    · rw [if_neg h0]
      obtain ⟨p, rfl⟩ : ∃ p : Nat, a = (p : Int) + 1 := ⟨(a - 1).toNat, by omega⟩
      obtain ⟨q, rfl⟩ : ∃ q : Nat, b = (q : Int) := ⟨b.toNat, by omega⟩
      have ep : ((p : Int) + 1 - 1).toNat = p := by omega
      rw [ep, Int.toNat_natCast]
      by_cases h1 : (s.size : Int) < (p : Int) + 1
      · rw [if_pos h1, ← extract_none s]
        by_cases h2 : s.size < p
        · rcases Nat.eq_zero_or_pos q with rfl | hq
          · exact cut_midOut0 s p v W hR ha hz h2 (by omega)
          · obtain ⟨k, rfl⟩ : ∃ k, q = k + 1 := ⟨q - 1, by omega⟩
            exact cut_midOut s p k v W hR ha hz h2 (by omega)
        · obtain rfl : p = s.size := by omega
          rcases Nat.eq_zero_or_pos q with rfl | hq
          · exact cut_midEq0 s v W hR ha hz
          · obtain ⟨k, rfl⟩ : ∃ k, q = k + 1 := ⟨q - 1, by omega⟩
            exact cut_midEq s k v W hR ha hz
      · rw [if_neg h1]
        by_cases h2 : (p : Int) + 1 - 1 + (q : Int) ≤ (s.size : Int)
        · rw [if_pos h2]
          exact cut_midIn s p q v W hR ha hz (by omega) (by omega)
        · rw [if_neg h2]
          exact cut_midDoubt s p q v W hR ha hz (by omega) (by omega)

theorem call_Mid_no (s : ByteArray) (x y : FV) (v : Value) (w : World) (hr : Row w w.heap.size 5 v [FV.list ⟨2, 0, 0, s⟩, FV.list x, FV.list y]) (hs : s.size ≤ 1000000) (hx : x.kind = 1 ∨ x = ⟨6, 0, 0, ⟨#[]⟩⟩) (hy : y.kind = 1 ∨ y = ⟨6, 0, 0, ⟨#[]⟩⟩) (tx : x.text.size = 0) (ty : y.text.size = 0) (hxy : x = ⟨6, 0, 0, ⟨#[]⟩⟩ ∨ y = ⟨6, 0, 0, ⟨#[]⟩⟩) :
    Calls Tryz.prog 17 #[.string ⟨#[77, 73, 68]⟩, v] w fun e w' => e = .returned (.agg #[.int .i64 6, .int .i64 0, .int .i64 0, .string ⟨#[]⟩, .slice none 0 0]) ∧ Below w.heap.size w w' :=
  call_cutMid [⟨2, 0, 0, s⟩, x, y] ⟨6, 0, 0, ⟨#[]⟩⟩ _ v w hr (by simp) (by intro z hz; simp at hz; rcases hz with rfl | rfl | rfl; exact Nat.le_trans hs (by omega); exact Nat.le_trans (Nat.le_of_eq tx) (Nat.zero_le _); exact Nat.le_trans (Nat.le_of_eq ty) (Nat.zero_le _)) (fun W hR => fitsTexts_Mid s x y v W (by omega) hR hx hy) (fun _ => rfl) (fun h => by rcases hxy with rfl | rfl <;> simp at h)

end Go.Proofs.YtopomonencffkaaGreatDoor
