/-
LEFT and RIGHT of the reference.
-/
import Derived.Test.YtcljbgnbdmbkkaaGreatDoorNoLeft
import Derived.Test.YtcljbgnbdmbkkaaGreatDoorNoRight
import Derived.Test.YtcljbgnbdmbkkaaGreatDoorFitL
import Derived.Test.YtcljbgnbdmbkkaaGreatDoorCut
import Derived.Test.YtcljbgnbdmbkkaaGreatDoorReadN
namespace Go.Proofs.YtcljbgnbdmbkkaaGreatDoor
open Go.RowKit

/-- What LEFT of a text and a whole number is. -/
def rLeft (s : ByteArray) (n : Int) : FV := if asciiB s = true then (if n < 0 then ⟨4, 0, 0, errV⟩ else ⟨2, 0, 0, s.extract 0 (min n.toNat s.size)⟩) else ⟨6, 0, 0, ⟨#[]⟩⟩
/-- What LEFT of a text is. -/
def rLeft1 (s : ByteArray) : FV := if asciiB s = true then ⟨2, 0, 0, s.extract 0 (min 1 s.size)⟩ else ⟨6, 0, 0, ⟨#[]⟩⟩
/-- What RIGHT of a text is. -/
def rRight1 (s : ByteArray) : FV := if asciiB s = true then ⟨2, 0, 0, s.extract (s.size - min 1 s.size) s.size⟩ else ⟨6, 0, 0, ⟨#[]⟩⟩

set_option maxRecDepth 100000 in
set_option maxHeartbeats 2000000 in
theorem callText_Left (r : FV) (v : Value) (w : World)
    (hP : ∀ W, Below w.heap.size w W → Calls Tryz.prog 132 #[.string ⟨#[76, 69, 70, 84]⟩, v] W fun e w' => e = .returned (.agg #[.int .i64 r.kind, .int .i64 r.num, .int .i64 r.den, .string r.text, .slice none 0 0]) ∧ Below W.heap.size W w') :
    Calls Tryz.prog 61 #[.string ⟨#[76, 69, 70, 84]⟩, v] w fun e w' => e = .returned (.tuple #[.agg #[.int .i64 r.kind, .int .i64 r.num, .int .i64 r.den, .string r.text, .slice none 0 0], .bool true]) ∧ Below w.heap.size w w' := by
  have HP := Lib.hid hP
  clear hP
  go_enter Tryz.func61, Tryz.ntmps61
  go_wp2_with (go_at_call 132; refine (HP.out _ ((Below.refl _ _).alloc (Nat.le_refl _) _)).mono ?_; rintro e w1 ⟨rfl, hb1⟩; obtain ⟨c1, f1, z1, k1⟩ := box_cells (heap_new1 _ _) hb1)
  refine bodyPost_ret (v := .tuple #[.agg #[.int .i64 r.kind, .int .i64 r.num, .int .i64 r.den, .string r.text, .slice none 0 0], .bool true]) (by simp [results, Tryz.results61, go_sem, c1]) rfl ⟨rfl, ?_⟩
  have pb := below_one hb1
  clear c1 f1
  (repeat refine below_set0 ?_ _ _)
  exact pb

set_option maxRecDepth 100000 in
set_option maxHeartbeats 2000000 in
theorem callText_Right (r : FV) (v : Value) (w : World)
    (hP : ∀ W, Below w.heap.size w W → Calls Tryz.prog 132 #[.string ⟨#[82, 73, 71, 72, 84]⟩, v] W fun e w' => e = .returned (.agg #[.int .i64 r.kind, .int .i64 r.num, .int .i64 r.den, .string r.text, .slice none 0 0]) ∧ Below W.heap.size W w') :
    Calls Tryz.prog 61 #[.string ⟨#[82, 73, 71, 72, 84]⟩, v] w fun e w' => e = .returned (.tuple #[.agg #[.int .i64 r.kind, .int .i64 r.num, .int .i64 r.den, .string r.text, .slice none 0 0], .bool true]) ∧ Below w.heap.size w w' := by
  have HP := Lib.hid hP
  clear hP
  go_enter Tryz.func61, Tryz.ntmps61
  go_wp2_with (go_at_call 132; refine (HP.out _ ((Below.refl _ _).alloc (Nat.le_refl _) _)).mono ?_; rintro e w1 ⟨rfl, hb1⟩; obtain ⟨c1, f1, z1, k1⟩ := box_cells (heap_new1 _ _) hb1)
  refine bodyPost_ret (v := .tuple #[.agg #[.int .i64 r.kind, .int .i64 r.num, .int .i64 r.den, .string r.text, .slice none 0 0], .bool true]) (by simp [results, Tryz.results61, go_sem, c1]) rfl ⟨rfl, ?_⟩
  have pb := below_one hb1
  clear c1 f1
  (repeat refine below_set0 ?_ _ _)
  exact pb

/-- The function of the reference, off what it takes and what it cuts. -/
theorem call_cutLeft (vs : List FV) (r : FV) (B : Bool) (v : Value) (w : World) (hr : Row w w.heap.size 5 v (vs.map FV.list)) (hn : vs.length ≤ 1000000) (hz : ∀ x ∈ vs, x.text.size ≤ 1000000000)
    (hF : ∀ W, Row W W.heap.size 5 v (vs.map FV.list) → Calls Tryz.prog 85 #[.string ⟨#[76, 69, 70, 84]⟩, v] W fun e w' => e = .returned (.tuple #[.bool B, .bool true]) ∧ Below W.heap.size W w')
    (hD : B = false → r = ⟨6, 0, 0, ⟨#[]⟩⟩)
    (hP : B = true → ∀ W, Row W W.heap.size 5 v (vs.map FV.list) → Calls Tryz.prog 132 #[.string ⟨#[76, 69, 70, 84]⟩, v] W fun e w' => e = .returned (.agg #[.int .i64 r.kind, .int .i64 r.num, .int .i64 r.den, .string r.text, .slice none 0 0]) ∧ Below W.heap.size W w') :
    Calls Tryz.prog 25 #[.string ⟨#[76, 69, 70, 84]⟩, v] w fun e w' => e = .returned (.agg #[.int .i64 r.kind, .int .i64 r.num, .int .i64 r.den, .string r.text, .slice none 0 0]) ∧ Below w.heap.size w w' := by
  obtain ⟨A, c, rfl⟩ : ∃ A c, v = .slice A vs.length c := by
    obtain ⟨A, c, h, _⟩ := hr
    exact ⟨A, c, by rw [List.length_map] at h; exact h⟩
  refine call_any _ _ w _ _ _ _ _ _ _ fun W0 hW0 => ?_
  have hr0 := (hr.below hW0).more hW0.size
  have hFit : ∀ W, Below W0.heap.size W0 W → Calls Tryz.prog 56 #[.string ⟨#[76, 69, 70, 84]⟩, .slice A vs.length c] W fun e w' => e = .returned (.bool B) ∧ Below W.heap.size W w' := fun W hW =>
    fits_Texts _ _ W _ (fun W' hW' => fitsNumbers_Left A _ c W' (fun W'' hW'' => every_some vs _ W'' ((((((hr0.below hW).more hW.size).below hW').more hW'.size).below hW'').more hW''.size) hn hz))
      (fun W' hW' => hF W' ((((hr0.below hW).more hW.size).below hW').more hW'.size))
  cases B
  · rw [hD rfl]
    exact callOver_no _ _ W0 hFit
  · refine callOver_CallText _ _ W0 _ _ _ _ _ _ _ hFit ?_ ?_ ?_ ?_ ?_
    · exact fun W _ => stat_Left _ W
    · exact fun W _ => criteria_Left _ W
    · exact fun W _ => lookup_Left _ W
    · exact fun W _ => callMath_Left _ W
    · exact fun W hW => callText_Left r _ W fun W' hW' => hP rfl W' ((((hr0.below hW).more hW.size).below hW').more hW'.size)

/-- The function of the reference, off what it takes and what it cuts. -/
theorem call_cutRight (vs : List FV) (r : FV) (B : Bool) (v : Value) (w : World) (hr : Row w w.heap.size 5 v (vs.map FV.list)) (hn : vs.length ≤ 1000000) (hz : ∀ x ∈ vs, x.text.size ≤ 1000000000)
    (hF : ∀ W, Row W W.heap.size 5 v (vs.map FV.list) → Calls Tryz.prog 85 #[.string ⟨#[82, 73, 71, 72, 84]⟩, v] W fun e w' => e = .returned (.tuple #[.bool B, .bool true]) ∧ Below W.heap.size W w')
    (hD : B = false → r = ⟨6, 0, 0, ⟨#[]⟩⟩)
    (hP : B = true → ∀ W, Row W W.heap.size 5 v (vs.map FV.list) → Calls Tryz.prog 132 #[.string ⟨#[82, 73, 71, 72, 84]⟩, v] W fun e w' => e = .returned (.agg #[.int .i64 r.kind, .int .i64 r.num, .int .i64 r.den, .string r.text, .slice none 0 0]) ∧ Below W.heap.size W w') :
    Calls Tryz.prog 25 #[.string ⟨#[82, 73, 71, 72, 84]⟩, v] w fun e w' => e = .returned (.agg #[.int .i64 r.kind, .int .i64 r.num, .int .i64 r.den, .string r.text, .slice none 0 0]) ∧ Below w.heap.size w w' := by
  obtain ⟨A, c, rfl⟩ : ∃ A c, v = .slice A vs.length c := by
    obtain ⟨A, c, h, _⟩ := hr
    exact ⟨A, c, by rw [List.length_map] at h; exact h⟩
  refine call_any _ _ w _ _ _ _ _ _ _ fun W0 hW0 => ?_
  have hr0 := (hr.below hW0).more hW0.size
  have hFit : ∀ W, Below W0.heap.size W0 W → Calls Tryz.prog 56 #[.string ⟨#[82, 73, 71, 72, 84]⟩, .slice A vs.length c] W fun e w' => e = .returned (.bool B) ∧ Below W.heap.size W w' := fun W hW =>
    fits_Texts _ _ W _ (fun W' hW' => fitsNumbers_Right A _ c W' (fun W'' hW'' => every_some vs _ W'' ((((((hr0.below hW).more hW.size).below hW').more hW'.size).below hW'').more hW''.size) hn hz))
      (fun W' hW' => hF W' ((((hr0.below hW).more hW.size).below hW').more hW'.size))
  cases B
  · rw [hD rfl]
    exact callOver_no _ _ W0 hFit
  · refine callOver_CallText _ _ W0 _ _ _ _ _ _ _ hFit ?_ ?_ ?_ ?_ ?_
    · exact fun W _ => stat_Right _ W
    · exact fun W _ => criteria_Right _ W
    · exact fun W _ => lookup_Right _ W
    · exact fun W _ => callMath_Right _ W
    · exact fun W hW => callText_Right r _ W fun W' hW' => hP rfl W' ((((hr0.below hW).more hW.size).below hW').more hW'.size)

theorem btw_all (n : Int) (h1 : n ≤ 99999999999) (h2 : -99999999999 ≤ n) : btw ⟨1, n, 1, ⟨#[]⟩⟩ (-99999999999) 99999999999 = true := by
  simp [btw, h1, h2]

theorem call_Left (s : ByteArray) (n : Int) (v : Value) (w : World) (hr : Row w w.heap.size 5 v [FV.list ⟨2, 0, 0, s⟩, FV.list ⟨1, n, 1, ⟨#[]⟩⟩]) (hs : s.size ≤ 1000000000) (b1 : n ≤ 99999999999) (b2 : -99999999999 ≤ n) :
    Calls Tryz.prog 25 #[.string ⟨#[76, 69, 70, 84]⟩, v] w fun e w' => e = .returned (.agg #[.int .i64 (rLeft s n).kind, .int .i64 (rLeft s n).num, .int .i64 (rLeft s n).den, .string (rLeft s n).text, .slice none 0 0]) ∧ Below w.heap.size w w' := by
  refine call_cutLeft [⟨2, 0, 0, s⟩, ⟨1, n, 1, ⟨#[]⟩⟩] (rLeft s n) (true && asciiB s) v w hr (by simp) (by intro x hx; simp at hx; rcases hx with rfl | rfl; exact hs; exact Nat.zero_le _) (fun W hR => fitsTexts_Left2 s ⟨1, n, 1, ⟨#[]⟩⟩ true v W hs hR fun W' => by
    have := between_num ⟨1, n, 1, ⟨#[]⟩⟩ (-99999999999) 99999999999 W' rfl
    rwa [btw_all n b1 b2] at this) ?_ ?_
  · intro h
    unfold rLeft
    rw [if_neg (by simpa using h)]
  · intro h W hR
    have ha : asciiB s = true := by simpa using h
    unfold rLeft
    rw [if_pos ha]
    by_cases h0 : n < 0
    · rw [if_pos h0]
      exact cut_leftNeg s n v W hR ha hs h0
    · rw [if_neg h0]
      obtain ⟨k, rfl⟩ : ∃ k : Nat, n = (k : Int) := ⟨n.toNat, by omega⟩
      rw [Int.toNat_natCast]
      exact cut_left2 s k v W hR ha hs (by omega)

theorem call_Left_no (s : ByteArray) (v : Value) (w : World) (hr : Row w w.heap.size 5 v [FV.list ⟨2, 0, 0, s⟩, FV.list ⟨6, 0, 0, ⟨#[]⟩⟩]) (hs : s.size ≤ 1000000000) :
    Calls Tryz.prog 25 #[.string ⟨#[76, 69, 70, 84]⟩, v] w fun e w' => e = .returned (.agg #[.int .i64 6, .int .i64 0, .int .i64 0, .string ⟨#[]⟩, .slice none 0 0]) ∧ Below w.heap.size w w' :=
  call_cutLeft [⟨2, 0, 0, s⟩, ⟨6, 0, 0, ⟨#[]⟩⟩] ⟨6, 0, 0, ⟨#[]⟩⟩ (false && asciiB s) v w hr (by simp) (by intro x hx; simp at hx; rcases hx with rfl | rfl; exact hs; exact Nat.zero_le _) (fun W hR => fitsTexts_Left2 s ⟨6, 0, 0, ⟨#[]⟩⟩ false v W hs hR fun W' => between_doubt _ _ W') (fun _ => rfl) (fun h => by simp at h)

theorem call_Left1 (s : ByteArray) (v : Value) (w : World) (hr : Row w w.heap.size 5 v [FV.list ⟨2, 0, 0, s⟩]) (hs : s.size ≤ 1000000000) :
    Calls Tryz.prog 25 #[.string ⟨#[76, 69, 70, 84]⟩, v] w fun e w' => e = .returned (.agg #[.int .i64 (rLeft1 s).kind, .int .i64 (rLeft1 s).num, .int .i64 (rLeft1 s).den, .string (rLeft1 s).text, .slice none 0 0]) ∧ Below w.heap.size w w' := by
  refine call_cutLeft [⟨2, 0, 0, s⟩] (rLeft1 s) (asciiB s) v w hr (by simp) (by simpa using hs) (fun W hR => fitsTexts_Left1 s v W hs hR) ?_ ?_
  · intro h
    unfold rLeft1
    rw [if_neg (by simpa using h)]
  · intro h W hR
    unfold rLeft1
    rw [if_pos h]
    exact cut_left1 s v W hR h hs

theorem call_Right1 (s : ByteArray) (v : Value) (w : World) (hr : Row w w.heap.size 5 v [FV.list ⟨2, 0, 0, s⟩]) (hs : s.size ≤ 1000000000) :
    Calls Tryz.prog 25 #[.string ⟨#[82, 73, 71, 72, 84]⟩, v] w fun e w' => e = .returned (.agg #[.int .i64 (rRight1 s).kind, .int .i64 (rRight1 s).num, .int .i64 (rRight1 s).den, .string (rRight1 s).text, .slice none 0 0]) ∧ Below w.heap.size w w' := by
  refine call_cutRight [⟨2, 0, 0, s⟩] (rRight1 s) (asciiB s) v w hr (by simp) (by simpa using hs) (fun W hR => fitsTexts_Right1 s v W hs hR) ?_ ?_
  · intro h
    unfold rRight1
    rw [if_neg (by simpa using h)]
  · intro h W hR
    unfold rRight1
    rw [if_pos h]
    exact cut_right1 s v W hR h hs

end Go.Proofs.YtcljbgnbdmbkkaaGreatDoor
