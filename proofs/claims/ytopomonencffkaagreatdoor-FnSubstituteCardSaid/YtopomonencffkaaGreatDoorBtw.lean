/-
'between' of the reference.
-/
import Derived.Test.YtopomonencffkaaGreatDoorNums
import Derived.Test.YtopomonencffkaaGreatDoorOver
namespace Go.Proofs.YtopomonencffkaaGreatDoor
open Go.RowKit

/-- Whether a number is whole, and from lo to hi. -/
def btw (x : FV) (lo hi : Int) : Bool := x.den == 1 && (decide (lo ≤ x.num) && decide (x.num ≤ hi))

set_option maxRecDepth 100000 in
set_option maxHeartbeats 1000000 in
theorem between_num (x : FV) (lo hi : Int) (w : World) (h1 : x.kind = 1) :
    Calls Tryz.prog 147 #[.agg #[.int .i64 x.kind, .int .i64 x.num, .int .i64 x.den, .string x.text, .slice none 0 0], .int .i64 lo, .int .i64 hi] w fun e w' => e = .returned (.bool (btw x lo hi)) ∧ Below w.heap.size w w' := by
  have hu26 := Tryz.underlying34
  have H1 := Lib.hid h1
  have hnb : numB x = true := by simp [numB, h1]
  have HN : Hid (numB x = true) := hnb
  have hw := isWhole_any x.kind x.num x.den x.text none 0 0
  rw [h1] at hw
  clear hnb
  by_cases hd : x.den = 1
  · have TD : Hid (((1 : Int) == 1 && x.den == 1) = true) := by rw [Hid, hd]; rfl
    by_cases hlo : lo ≤ x.num
    · have e : btw x lo hi = decide (x.num ≤ hi) := by simp [btw, hd, hlo]
      rw [e, h1]
      clear h1 hd e
      go_enter Tryz.func147, Tryz.ntmps147
      go_wp2_with (first
        | (go_at_call 152; have q := asNumber_num x; rw [H1.out] at q; refine (q _ rfl).mono ?_; rintro e w1 ⟨rfl, hb1⟩; obtain ⟨c1, f1, z1, k1⟩ := box_cells (heap_new1 _ _) hb1; have pb1 := below_one hb1)
        | (go_at_call 146; have q := numeric_one x; rw [H1.out, HN.out] at q; refine (q _ (by omega)).mono ?_; rintro e w2 ⟨rfl, hb2⟩; obtain ⟨d2, g2, y2, j2⟩ := box_cells (heap_new1 _ _) hb2; have pb2 := below_box pb1 pb1.size hb2; clear c1 f1)
        | (go_at_call 171; refine (hw _).mono ?_; rintro e w3 ⟨rfl, hb3⟩; rw [TD.out]; obtain ⟨d3, g3, y3, j3⟩ := box_cells j2 hb3; have pb3 := below_next pb2 pb2.size hb3; clear d2 g2))
      go_ret
      exact ⟨rfl, pb3⟩
    · have e : btw x lo hi = false := by simp [btw, hd, hlo]
      rw [e, h1]
      clear h1 hd e
      go_enter Tryz.func147, Tryz.ntmps147
      go_wp2_with (first
        | (go_at_call 152; have q := asNumber_num x; rw [H1.out] at q; refine (q _ rfl).mono ?_; rintro e w1 ⟨rfl, hb1⟩; obtain ⟨c1, f1, z1, k1⟩ := box_cells (heap_new1 _ _) hb1; have pb1 := below_one hb1)
        | (go_at_call 146; have q := numeric_one x; rw [H1.out, HN.out] at q; refine (q _ (by omega)).mono ?_; rintro e w2 ⟨rfl, hb2⟩; obtain ⟨d2, g2, y2, j2⟩ := box_cells (heap_new1 _ _) hb2; have pb2 := below_box pb1 pb1.size hb2; clear c1 f1)
        | (go_at_call 171; refine (hw _).mono ?_; rintro e w3 ⟨rfl, hb3⟩; rw [TD.out]; obtain ⟨d3, g3, y3, j3⟩ := box_cells j2 hb3; have pb3 := below_next pb2 pb2.size hb3; clear d2 g2))
      go_ret
      exact ⟨rfl, pb3⟩
  · have TD : Hid (((1 : Int) == 1 && x.den == 1) = false) := by rw [Hid]; simpa using hd
    have e : btw x lo hi = false := by simp [btw, hd]
    rw [e, h1]
    clear h1 hd e
    go_enter Tryz.func147, Tryz.ntmps147
    go_wp2_with (first
      | (go_at_call 152; have q := asNumber_num x; rw [H1.out] at q; refine (q _ rfl).mono ?_; rintro e w1 ⟨rfl, hb1⟩; obtain ⟨c1, f1, z1, k1⟩ := box_cells (heap_new1 _ _) hb1; have pb1 := below_one hb1)
      | (go_at_call 146; have q := numeric_one x; rw [H1.out, HN.out] at q; refine (q _ (by omega)).mono ?_; rintro e w2 ⟨rfl, hb2⟩; obtain ⟨d2, g2, y2, j2⟩ := box_cells (heap_new1 _ _) hb2; have pb2 := below_box pb1 pb1.size hb2; clear c1 f1)
      | (go_at_call 171; refine (hw _).mono ?_; rintro e w3 ⟨rfl, hb3⟩; rw [TD.out]; obtain ⟨d3, g3, y3, j3⟩ := box_cells j2 hb3; have pb3 := below_next pb2 pb2.size hb3; clear d2 g2))
    go_ret
    exact ⟨rfl, pb3⟩

set_option maxRecDepth 100000 in
set_option maxHeartbeats 1000000 in
theorem between_doubt (lo hi : Int) (w : World) :
    Calls Tryz.prog 147 #[.agg #[.int .i64 6, .int .i64 0, .int .i64 0, .string ⟨#[]⟩, .slice none 0 0], .int .i64 lo, .int .i64 hi] w fun e w' => e = .returned (.bool false) ∧ Below w.heap.size w w' := by
  have hu26 := Tryz.underlying34
  have HQ : Hid (∀ W, Calls Tryz.prog 146 #[.agg #[.int .i64 6, .int .i64 0, .int .i64 0, .string ⟨#[]⟩, .slice none 0 0]] W fun e w' => e = .returned (.bool false) ∧ Below W.heap.size W w') :=
    fun W => numeric_one ⟨6, 0, 0, ⟨#[]⟩⟩ W (by simp)
  go_enter Tryz.func147, Tryz.ntmps147
  go_wp2_with (first
    | (go_at_call 152; refine (asNumber_doubt _).mono ?_; rintro e w1 ⟨rfl, hb1⟩; obtain ⟨c1, f1, z1, k1⟩ := box_cells (heap_new1 _ _) hb1; have pb1 := below_one hb1)
    | (go_at_call 146; refine (HQ.out _).mono ?_; rintro e w2 ⟨rfl, hb2⟩; have pb2 := below_box pb1 pb1.size hb2))
  go_ret
  exact ⟨rfl, pb2⟩

end Go.Proofs.YtopomonencffkaaGreatDoor
