/-
For which arguments SUBSTITUTE of the reference says anything.
-/
import Derived.Test.YtopomonencffkaaGreatDoorReadO
import Derived.Test.YtopomonencffkaaGreatDoorFits
import Derived.Test.YtopomonencffkaaGreatDoorBtw
import Derived.Test.YtopomonencffkaaGreatDoorTextl
import Derived.MapKept
import Derived.Deep.QuietTactic
import Derived.BigQuiet
namespace Go.Proofs.YtopomonencffkaaGreatDoor
open Go.RowKit

/-- 'between' of a whole number, or of a doubt. -/
theorem between_one (x : FV) (lo hi : Int) (w : World) (h : x.kind = 1 ∨ x = ⟨6, 0, 0, ⟨#[]⟩⟩) :
    Calls Tryz.prog 147 #[.agg #[.int .i64 x.kind, .int .i64 x.num, .int .i64 x.den, .string x.text, .slice none 0 0], .int .i64 lo, .int .i64 hi] w fun e w' => e = .returned (.bool (x.kind == 1 && btw x lo hi)) ∧ Below w.heap.size w w' := by
  rcases h with h | h
  · have := between_num x lo hi w h
    rwa [show (x.kind == 1) = true by rw [h]; rfl, Bool.true_and]
  · subst h
    exact between_doubt lo hi w

theorem enter_textual (a : Value) (W : World) : Sem.run Tryz.prog (callFunc 150 #[a]) W = .ok (.enter 150 #[a]) W := by kernel_rfl

/-- 'every(args, textual)' of three texts. -/
theorem every_texts (s p q : ByteArray) (v : Value) (w : World) (hs : s.size ≤ 1000000000) (hp : p.size ≤ 1000000000) (hq : q.size ≤ 1000000000) (hr : Row w w.heap.size 5 v (([⟨2, 0, 0, s⟩, ⟨2, 0, 0, p⟩, ⟨2, 0, 0, q⟩] : List FV).map FV.list)) :
    Calls Tryz.prog 145 #[v, .func (.func 150) #[] #[]] w fun e w' => e = .returned (.bool (asciiB s && (asciiB p && asciiB q))) ∧ Below w.heap.size w w' := by
  have h := every_flat 150 (fun x => asciiB x.text) [⟨2, 0, 0, s⟩, ⟨2, 0, 0, p⟩, ⟨2, 0, 0, q⟩] v w hr (by simp) enter_textual (by
    intro x hx W
    simp at hx
    rcases hx with rfl | rfl | rfl
    · exact textual_str _ W hs
    · exact textual_str _ W hp
    · exact textual_str _ W hq)
  simpa using h

theorem run_textField (p : ByteArray) (w : World) : Sem.run Tryz.prog (Instr.field 34 (.agg #[.int .i64 2, .int .i64 0, .int .i64 0, .string p, .slice none 0 0]) 3) w = .ok (.string p) w := by kernel_rfl

section
attribute [local go_sem] undef
set_option maxRecDepth 100000 in
set_option maxHeartbeats 2000000 in
theorem fitsTexts_Sub3 (s p q : ByteArray) (v : Value) (w : World) (hs : s.size ≤ 1000000000) (hp : p.size ≤ 1000000000) (hq : q.size ≤ 1000000000) (hr : Row w w.heap.size 5 v (([⟨2, 0, 0, s⟩, ⟨2, 0, 0, p⟩, ⟨2, 0, 0, q⟩] : List FV).map FV.list)) :
    Calls Tryz.prog 69 #[.string ⟨#[83, 85, 66, 83, 84, 73, 84, 85, 84, 69]⟩, v] w fun e w' => e = .returned (.tuple #[.bool ((asciiB s && (asciiB p && asciiB q)) && !(p == ⟨#[]⟩)), .bool true]) ∧ Below w.heap.size w w' := by
  have HP : Hid (p.size ≤ 1000000000) := hp
  have HR : Hid (∀ W, Below w.heap.size w W → Row W W.heap.size 5 v (([⟨2, 0, 0, s⟩, ⟨2, 0, 0, p⟩, ⟨2, 0, 0, q⟩] : List FV).map FV.list)) := fun W hW => (hr.below hW).more hW.size
  obtain ⟨g, o, c, rfl, hc1, hg, hcell⟩ := hr.at_ (k := 1) rfl
  have HE : Hid (∀ W, Below w.heap.size w W → Calls Tryz.prog 145 #[.slice (some ⟨g, o, none⟩) 3 c, .func (.func 150) #[] #[]] W fun e w' => e = .returned (.bool (asciiB s && (asciiB p && asciiB q))) ∧ Below W.heap.size W w') := fun W hW => by
    have := Row.part (HR.out W hW) 0 3 c (by simp) (by simpa using hc1)
    exact every_texts s p q _ W hs hp hq (by simpa using this)
  have QW : Hid (∀ W, Below w.heap.size w W → W.cell? ⟨g, o + 5, none⟩ = some (.int .i64 2) ∧ W.cell? ⟨g, o + 5 + 1, none⟩ = some (.int .i64 0) ∧ W.cell? ⟨g, o + 5 + 2, none⟩ = some (.int .i64 0) ∧ W.cell? ⟨g, o + 5 + 3, none⟩ = some (.string p) ∧ W.cell? ⟨g, o + 5 + 4, none⟩ = some (.slice none 0 0) ∧ g < W.heap.size) := fun W hW => by
    have h1 := fun j u hu => (hW.cell (p := ⟨g, o + 1 * 5 + j, none⟩) hg).trans (hcell j u hu)
    simp only [Nat.one_mul] at h1
    exact ⟨h1 0 _ rfl, h1 1 _ rfl, h1 2 _ rfl, h1 3 _ rfl, h1 4 _ rfl, Nat.lt_of_lt_of_le hg hW.size⟩
  have hl : (([⟨2, 0, 0, s⟩, ⟨2, 0, 0, p⟩, ⟨2, 0, 0, q⟩] : List FV).map FV.list).length = 3 := rfl
  rw [hl] at hc1 ⊢
  have hci : (3 : Int) ≤ (c : Int) := by omega
  have pb := Below.refl w.heap.size w
  have hu26 := Tryz.underlying34
  clear hcell hr hs hp hq hl
  cases hA : (asciiB s && (asciiB p && asciiB q))
  · have HA := Lib.hid hA
    clear hA
    go_enter Tryz.func69, Tryz.ntmps69
    go_wp2_with (go_at_call 145; refine (HE.out _ (by first | exact pb | exact pb.drew)).mono ?_; rintro e w1 ⟨rfl, hb1⟩; rw [HA.out])
    go_ret2
    exact ⟨rfl, hb1⟩
  · have hap : asciiB p = true := by
      simp only [Bool.and_eq_true] at hA
      exact hA.2.1
    have HA := Lib.hid hA
    have HAP := Lib.hid hap
    clear hA hap
    by_cases hpe : p = ⟨#[]⟩
    · subst hpe
      go_enter Tryz.func69, Tryz.ntmps69
      go_wp2_with (first
        | (go_at_call 145; refine (HE.out _ (by first | exact pb | exact pb.drew)).mono ?_; rintro e w1 ⟨rfl, hb1⟩; rw [HA.out]; have pb1 := pb.trans hb1; obtain ⟨q0, q1, q2, q3, q4, q5⟩ := QW.out _ pb1)
        | (go_at_call 151; refine (asText_plain _ _ HP.out HAP.out).mono ?_; rintro e w2 ⟨rfl, hb2⟩; have pb2 := below_next pb1 pb1.size hb2))
      rw [run_textField]
      go_wp2
      go_ret2
      exact ⟨rfl, pb2⟩
    · have hpe2 : (p == ⟨#[]⟩) = false := by
        cases h : (p == ⟨#[]⟩)
        · rfl
        · exact absurd ((Go.MapKept.bytes_beq _ _).1 h) hpe
      have hie : p.toList.isEmpty = false := by
        have h3 : (p.toList == (⟨#[]⟩ : ByteArray).toList) = false := by rw [← Go.beq_toListBytes]; exact hpe2
        cases h : p.toList with
        | nil => rw [h] at h3; exact absurd h3 (by simp [ByteArray.toList_eq])
        | cons x l => rfl
      have HIE := Lib.hid hie
      have HPE2 := Lib.hid hpe2
      clear hpe hpe2 hie
      go_enter Tryz.func69, Tryz.ntmps69
      go_wp2_with (first
        | (go_at_call 145; refine (HE.out _ (by first | exact pb | exact pb.drew)).mono ?_; rintro e w1 ⟨rfl, hb1⟩; rw [HA.out]; have pb1 := pb.trans hb1; obtain ⟨q0, q1, q2, q3, q4, q5⟩ := QW.out _ pb1)
        | (go_at_call 151; refine (asText_plain _ _ HP.out HAP.out).mono ?_; rintro e w2 ⟨rfl, hb2⟩; have pb2 := below_next pb1 pb1.size hb2))
      rw [run_textField]
      go_wp2
      go_ret2
      refine ⟨?_, pb2⟩
      show Ending.returned (.tuple #[.bool (!p.toList.isEmpty), .bool true]) = _
      rw [HIE.out, HPE2.out]
      rfl
set_option maxRecDepth 100000 in
set_option maxHeartbeats 2000000 in
theorem fitsTexts_Sub4 (s p q : ByteArray) (x : FV) (v : Value) (w : World) (hs : s.size ≤ 1000000000) (hp : p.size ≤ 1000000000) (hq : q.size ≤ 1000000000) (hr : Row w w.heap.size 5 v (([⟨2, 0, 0, s⟩, ⟨2, 0, 0, p⟩, ⟨2, 0, 0, q⟩, x] : List FV).map FV.list)) (hx : x.kind = 1 ∨ x = ⟨6, 0, 0, ⟨#[]⟩⟩) :
    Calls Tryz.prog 69 #[.string ⟨#[83, 85, 66, 83, 84, 73, 84, 85, 84, 69]⟩, v] w fun e w' => e = .returned (.tuple #[.bool ((x.kind == 1 && btw x (-99999999999) 1000000) && ((asciiB s && (asciiB p && asciiB q)) && !(p == ⟨#[]⟩))), .bool true]) ∧ Below w.heap.size w w' := by
  have HP : Hid (p.size ≤ 1000000000) := hp
  have HR : Hid (∀ W, Below w.heap.size w W → Row W W.heap.size 5 v (([⟨2, 0, 0, s⟩, ⟨2, 0, 0, p⟩, ⟨2, 0, 0, q⟩, x] : List FV).map FV.list)) := fun W hW => (hr.below hW).more hW.size
  obtain ⟨g, o, c, rfl, hc1, hg, hcell⟩ := hr.at_ (k := 1) rfl
  obtain ⟨g', o', c', e', _, _, hcell'⟩ := hr.at_ (k := 3) rfl
  injection e' with e1 e2 e3
  injection e1 with e1
  injection e1 with e1 e4
  subst e1 e4 e3
  have HBT : Hid (∀ W, Calls Tryz.prog 147 #[.agg #[.int .i64 x.kind, .int .i64 x.num, .int .i64 x.den, .string x.text, .slice none 0 0], .int .i64 (-99999999999), .int .i64 1000000] W fun e w' => e = .returned (.bool (x.kind == 1 && btw x (-99999999999) 1000000)) ∧ Below W.heap.size W w') := fun W => between_one x _ _ W hx
  have h3 := hcell' 0 _ rfl
  have h4 := hcell' 1 _ rfl
  have h5 := hcell' 2 _ rfl
  have h6 := hcell' 3 _ rfl
  have h7 := hcell' 4 _ rfl
  simp only [Nat.add_zero] at h3
  have HE : Hid (∀ W, Below w.heap.size w W → Calls Tryz.prog 145 #[.slice (some ⟨g, o, none⟩) 3 c, .func (.func 150) #[] #[]] W fun e w' => e = .returned (.bool (asciiB s && (asciiB p && asciiB q))) ∧ Below W.heap.size W w') := fun W hW => by
    have := Row.part (HR.out W hW) 0 3 c (by simp) (by simp at hc1; omega)
    exact every_texts s p q _ W hs hp hq (by simpa using this)
  have QW : Hid (∀ W, Below w.heap.size w W → W.cell? ⟨g, o + 5, none⟩ = some (.int .i64 2) ∧ W.cell? ⟨g, o + 5 + 1, none⟩ = some (.int .i64 0) ∧ W.cell? ⟨g, o + 5 + 2, none⟩ = some (.int .i64 0) ∧ W.cell? ⟨g, o + 5 + 3, none⟩ = some (.string p) ∧ W.cell? ⟨g, o + 5 + 4, none⟩ = some (.slice none 0 0) ∧ g < W.heap.size) := fun W hW => by
    have h1 := fun j u hu => (hW.cell (p := ⟨g, o + 1 * 5 + j, none⟩) hg).trans (hcell j u hu)
    simp only [Nat.one_mul] at h1
    exact ⟨h1 0 _ rfl, h1 1 _ rfl, h1 2 _ rfl, h1 3 _ rfl, h1 4 _ rfl, Nat.lt_of_lt_of_le hg hW.size⟩
  have hl : (([⟨2, 0, 0, s⟩, ⟨2, 0, 0, p⟩, ⟨2, 0, 0, q⟩, x] : List FV).map FV.list).length = 4 := rfl
  rw [hl] at hc1 ⊢
  have hci : (4 : Int) ≤ (c : Int) := by omega
  have hci3 : (3 : Int) ≤ (c : Int) := by omega
  have pb := Below.refl w.heap.size w
  have hu26 := Tryz.underlying34
  clear hcell hcell' hr hs hp hq hl hx
  cases hB1 : (x.kind == 1 && btw x (-99999999999) 1000000)
  · have HB1 := Lib.hid hB1
    clear hB1
    go_enter Tryz.func69, Tryz.ntmps69
    go_wp2_with (go_at_call 147; refine (HBT.out _).mono ?_; rintro e w0 ⟨rfl, hb0⟩; rw [HB1.out]; have pb := below_next pb pb.size hb0)
    go_ret2
    exact ⟨rfl, pb⟩
  have HB1 := Lib.hid hB1
  clear hB1
  cases hA : (asciiB s && (asciiB p && asciiB q))
  · have HA := Lib.hid hA
    clear hA
    go_enter Tryz.func69, Tryz.ntmps69
    go_wp2_with (first
      | (go_at_call 147; refine (HBT.out _).mono ?_; rintro e w0 ⟨rfl, hb0⟩; rw [HB1.out]; have pb := below_next pb pb.size hb0)
      | (go_at_call 145; refine (HE.out _ (by first | exact pb | exact pb.drew)).mono ?_; rintro e w1 ⟨rfl, hb1⟩; rw [HA.out]; have pb1 := pb.trans (hb1.mono pb.size)))
    go_ret2
    exact ⟨rfl, pb1⟩
  · have hap : asciiB p = true := by
      simp only [Bool.and_eq_true] at hA
      exact hA.2.1
    have HA := Lib.hid hA
    have HAP := Lib.hid hap
    clear hA hap
    by_cases hpe : p = ⟨#[]⟩
    · subst hpe
      go_enter Tryz.func69, Tryz.ntmps69
      go_wp2_with (first
        | (go_at_call 147; refine (HBT.out _).mono ?_; rintro e w0 ⟨rfl, hb0⟩; rw [HB1.out]; have pb := below_next pb pb.size hb0)
        | (go_at_call 145; refine (HE.out _ (by first | exact pb | exact pb.drew)).mono ?_; rintro e w1 ⟨rfl, hb1⟩; rw [HA.out]; have pb1 := pb.trans (hb1.mono pb.size); obtain ⟨q0, q1, q2, q3, q4, q5⟩ := QW.out _ pb1)
        | (go_at_call 151; refine (asText_plain _ _ HP.out HAP.out).mono ?_; rintro e w2 ⟨rfl, hb2⟩; have pb2 := below_next pb1 pb1.size hb2))
      rw [run_textField]
      go_wp2
      go_ret2
      exact ⟨rfl, pb2⟩
    · have hpe2 : (p == ⟨#[]⟩) = false := by
        cases h : (p == ⟨#[]⟩)
        · rfl
        · exact absurd ((Go.MapKept.bytes_beq _ _).1 h) hpe
      have hie : p.toList.isEmpty = false := by
        have h3 : (p.toList == (⟨#[]⟩ : ByteArray).toList) = false := by rw [← Go.beq_toListBytes]; exact hpe2
        cases h : p.toList with
        | nil => rw [h] at h3; exact absurd h3 (by simp [ByteArray.toList_eq])
        | cons x l => rfl
      have HIE := Lib.hid hie
      have HPE2 := Lib.hid hpe2
      clear hpe hpe2 hie
      go_enter Tryz.func69, Tryz.ntmps69
      go_wp2_with (first
        | (go_at_call 147; refine (HBT.out _).mono ?_; rintro e w0 ⟨rfl, hb0⟩; rw [HB1.out]; have pb := below_next pb pb.size hb0)
        | (go_at_call 145; refine (HE.out _ (by first | exact pb | exact pb.drew)).mono ?_; rintro e w1 ⟨rfl, hb1⟩; rw [HA.out]; have pb1 := pb.trans (hb1.mono pb.size); obtain ⟨q0, q1, q2, q3, q4, q5⟩ := QW.out _ pb1)
        | (go_at_call 151; refine (asText_plain _ _ HP.out HAP.out).mono ?_; rintro e w2 ⟨rfl, hb2⟩; have pb2 := below_next pb1 pb1.size hb2))
      rw [run_textField]
      go_wp2
      go_ret2
      refine ⟨?_, pb2⟩
      show Ending.returned (.tuple #[.bool (!p.toList.isEmpty), .bool true]) = _
      rw [HIE.out, HPE2.out]
      rfl
end

end Go.Proofs.YtopomonencffkaaGreatDoor
