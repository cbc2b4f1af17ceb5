/-
For which arguments LEFT and RIGHT of the reference say anything.
-/
import Derived.Test.YtcljbgnbdmbkkaaGreatDoorReadO
import Derived.Test.YtcljbgnbdmbkkaaGreatDoorFits
import Derived.Test.YtcljbgnbdmbkkaaGreatDoorBtw
namespace Go.Proofs.YtcljbgnbdmbkkaaGreatDoor
open Go.RowKit

set_option maxRecDepth 100000 in
set_option maxHeartbeats 2000000 in
theorem fitsTexts_Left2 (s : ByteArray) (x : FV) (B : Bool) (v : Value) (w : World) (hs : s.size ≤ 1000000000) (hr : Row w w.heap.size 5 v [FV.list ⟨2, 0, 0, s⟩, FV.list x])
    (hB : ∀ W, Calls Tryz.prog 163 #[.agg #[.int .i64 x.kind, .int .i64 x.num, .int .i64 x.den, .string x.text, .slice none 0 0], .int .i64 (-99999999999), .int .i64 99999999999] W fun e w' => e = .returned (.bool B) ∧ Below W.heap.size W w') :
    Calls Tryz.prog 85 #[.string ⟨#[76, 69, 70, 84]⟩, v] w fun e w' => e = .returned (.tuple #[.bool (B && asciiB s), .bool true]) ∧ Below w.heap.size w w' := by
  have HB := Lib.hid hB
  have HS : Hid (s.size ≤ 1000000000) := hs
  obtain ⟨g, o, c, rfl, hc1, hg, hcell⟩ := hr.at_ (k := 0) rfl
  obtain ⟨g', o', c', e', _, _, hcell'⟩ := hr.at_ (k := 1) rfl
  injection e' with e1 e2 e3
  injection e1 with e1
  injection e1 with e1 e4
  subst e1 e4 e3
  have QW : Hid (∀ W, Below w.heap.size w W → W.cell? ⟨g, o, none⟩ = some (.int .i64 2) ∧ W.cell? ⟨g, o + 1, none⟩ = some (.int .i64 0) ∧ W.cell? ⟨g, o + 2, none⟩ = some (.int .i64 0) ∧ W.cell? ⟨g, o + 3, none⟩ = some (.string s) ∧ W.cell? ⟨g, o + 4, none⟩ = some (.slice none 0 0) ∧ W.cell? ⟨g, o + 5, none⟩ = some (.int .i64 x.kind) ∧ W.cell? ⟨g, o + 5 + 1, none⟩ = some (.int .i64 x.num) ∧ W.cell? ⟨g, o + 5 + 2, none⟩ = some (.int .i64 x.den) ∧ W.cell? ⟨g, o + 5 + 3, none⟩ = some (.string x.text) ∧ W.cell? ⟨g, o + 5 + 4, none⟩ = some (.slice none 0 0)) := fun W hW => by
    have h0 := fun j u hu => (hW.cell (p := ⟨g, o + 0 * 5 + j, none⟩) hg).trans (hcell j u hu)
    have h1 := fun j u hu => (hW.cell (p := ⟨g, o + 1 * 5 + j, none⟩) hg).trans (hcell' j u hu)
    simp only [Nat.zero_mul, Nat.one_mul, Nat.add_zero] at h0 h1
    exact ⟨h0 0 _ rfl, h0 1 _ rfl, h0 2 _ rfl, h0 3 _ rfl, h0 4 _ rfl, h1 0 _ rfl, h1 1 _ rfl, h1 2 _ rfl, h1 3 _ rfl, h1 4 _ rfl⟩
  have hl : ([FV.list ⟨2, 0, 0, s⟩, FV.list x] : List (List Value)).length = 2 := rfl
  rw [hl]
  have pb := Below.refl w.heap.size w
  obtain ⟨q0, q1, q2, q3, q4, p0, p1, p2, p3, p4⟩ := QW.out w pb
  have hu26 := Tryz.underlying31
  clear hcell hcell' hr hB hl hs
  cases B
  · go_enter Tryz.func85, Tryz.ntmps85
    go_wp2_with (go_at_call 163; refine (HB.out _).mono ?_; rintro e w1 ⟨rfl, hb1⟩; have pb := below_next pb pb.size hb1; obtain ⟨q0, q1, q2, q3, q4, p0, p1, p2, p3, p4⟩ := QW.out _ pb)
    go_ret2
    exact ⟨rfl, pb⟩
  · cases hA : asciiB s <;>
    · have HA := Lib.hid hA
      clear hA
      go_enter Tryz.func85, Tryz.ntmps85
      go_wp2_with (first
        | (go_at_call 163; refine (HB.out _).mono ?_; rintro e w1 ⟨rfl, hb1⟩; have pb := below_next pb pb.size hb1; obtain ⟨q0, q1, q2, q3, q4, p0, p1, p2, p3, p4⟩ := QW.out _ pb)
        | (go_at_call 166; refine (textual_str s _ HS.out).mono ?_; rintro e w2 ⟨rfl, hb2⟩; rw [HA.out]; have pb := below_next pb pb.size hb2))
      go_ret2
      exact ⟨rfl, pb⟩

set_option maxRecDepth 100000 in
set_option maxHeartbeats 2000000 in
theorem fitsTexts_Left1 (s : ByteArray) (v : Value) (w : World) (hs : s.size ≤ 1000000000) (hr : Row w w.heap.size 5 v [FV.list ⟨2, 0, 0, s⟩]) :
    Calls Tryz.prog 85 #[.string ⟨#[76, 69, 70, 84]⟩, v] w fun e w' => e = .returned (.tuple #[.bool (asciiB s), .bool true]) ∧ Below w.heap.size w w' := by
  have HS : Hid (s.size ≤ 1000000000) := hs
  obtain ⟨g, o, c, rfl, hc1, hg, hcell⟩ := hr.single
  have q0 := hcell 0 _ rfl
  have q1 := hcell 1 _ rfl
  have q2 := hcell 2 _ rfl
  have q3 := hcell 3 _ rfl
  have q4 := hcell 4 _ rfl
  simp only [Nat.add_zero] at q0
  have hu26 := Tryz.underlying31
  clear hcell hr hs
  cases hA : asciiB s <;>
  · have HA := Lib.hid hA
    clear hA
    go_enter Tryz.func85, Tryz.ntmps85
    go_wp2_with (go_at_call 166; refine (textual_str s _ HS.out).mono ?_; rintro e w2 ⟨rfl, hb2⟩; rw [HA.out])
    go_ret2
    exact ⟨rfl, hb2⟩

set_option maxRecDepth 100000 in
set_option maxHeartbeats 2000000 in
theorem fitsTexts_Right1 (s : ByteArray) (v : Value) (w : World) (hs : s.size ≤ 1000000000) (hr : Row w w.heap.size 5 v [FV.list ⟨2, 0, 0, s⟩]) :
    Calls Tryz.prog 85 #[.string ⟨#[82, 73, 71, 72, 84]⟩, v] w fun e w' => e = .returned (.tuple #[.bool (asciiB s), .bool true]) ∧ Below w.heap.size w w' := by
  have HS : Hid (s.size ≤ 1000000000) := hs
  obtain ⟨g, o, c, rfl, hc1, hg, hcell⟩ := hr.single
  have q0 := hcell 0 _ rfl
  have q1 := hcell 1 _ rfl
  have q2 := hcell 2 _ rfl
  have q3 := hcell 3 _ rfl
  have q4 := hcell 4 _ rfl
  simp only [Nat.add_zero] at q0
  have hu26 := Tryz.underlying31
  clear hcell hr hs
  cases hA : asciiB s <;>
  · have HA := Lib.hid hA
    clear hA
    go_enter Tryz.func85, Tryz.ntmps85
    go_wp2_with (go_at_call 166; refine (textual_str s _ HS.out).mono ?_; rintro e w2 ⟨rfl, hb2⟩; rw [HA.out])
    go_ret2
    exact ⟨rfl, hb2⟩

end Go.Proofs.YtcljbgnbdmbkkaaGreatDoor
