/-
'every' and 'numeric' of the reference, at values that are no matrices and no texts.
-/
import Derived.Test.YtkglbccdiofnkaaGreatDoorFlat
namespace Go.Proofs.YtkglbccdiofnkaaGreatDoor
open Go.RowKit

set_option maxRecDepth 100000 in
set_option maxHeartbeats 1000000 in
theorem every_flat (F : Nat) (p : FV → Bool) (vs : List FV) (v : Value) (w : World) (hr : Row w w.heap.size 5 v (vs.map FV.list)) (hn : vs.length ≤ 1000000)
    (hE : ∀ (a : Value) (W : World), Sem.run Tryz.prog (callFunc F #[a]) W = .ok (.enter F #[a]) W)
    (hF : ∀ x ∈ vs, ∀ W, Calls Tryz.prog F #[.agg #[.int .i64 x.kind, .int .i64 x.num, .int .i64 x.den, .string x.text, .slice none 0 0]] W fun e w' => e = .returned (.bool (p x)) ∧ Below W.heap.size W w') :
    Calls Tryz.prog 170 #[v, .func (.func F) #[] #[]] w fun e w' => e = .returned (.bool (vs.all p)) ∧ Below w.heap.size w w' := by
  obtain ⟨A, c, rfl, hc1, hc2, hc3⟩ := hr
  rw [List.length_map] at hc1 hc3 ⊢
  have HF := Lib.hid hF
  clear hF
  have hu26 := Tryz.underlying31
  go_enter Tryz.func170, Tryz.ntmps170
  go_wp2
  go_loopw [5] (fun i wr => ∃ k : Nat, k ≤ vs.length ∧ i = .int .i64 k ∧ (vs.take k).all p = true ∧ Below w.heap.size w wr) (fun i _ => vs.length - (intOf i).toNat)
  case atStart => exact ⟨0, Nat.zero_le _, rfl, rfl, Below.refl _ _⟩
  case round =>
    obtain ⟨k, hk1, rfl, hall, hb⟩ := hrel
    have HA := Lib.hid hall
    clear hall
    by_cases hlt : k < vs.length
    · obtain ⟨g, o, rfl, hg, hcell⟩ := hc3 (by omega)
      obtain ⟨x, hxk⟩ : ∃ x, vs[k]? = some x := ⟨_, List.getElem?_eq_getElem hlt⟩
      have hmem := List.mem_of_getElem? hxk
      have hx : (vs.map FV.list)[k]? = some (FV.list x) := by rw [List.getElem?_map, hxk]; rfl
      have q : ∀ j u, (FV.list x)[j]? = some u → wr.cell? ⟨g, o + k * 5 + j, none⟩ = some u := fun j u hu => (hb.cell (p := ⟨g, o + k * 5 + j, none⟩) hg).trans (hcell k _ hx j u hu)
      have q0 := q 0 _ rfl
      have q1 := q 1 _ rfl
      have q2 := q 2 _ rfl
      have q3 := q 3 _ rfl
      have q4 := q 4 _ rfl
      have HM := Lib.hid hmem
      have HX : Hid ((vs.take (k + 1)).all p = ((vs.take k).all p && p x)) := by rw [Hid, List.take_add_one, hxk]; simp
      have HK : Hid (k < vs.length) := hlt
      clear q hx hxk hcell hc3 hc2 hmem
      simp only [Nat.add_zero] at q0
      cases hp : p x with
      | false =>
        have HR : Hid (vs.all p = false) := by
          rw [Hid, List.all_eq_false]
          exact ⟨x, HM.out, by simp [hp]⟩
        have HP := Lib.hid hp
        clear hp
        go_wp2_with (refine (HF.out x HM.out _).mono ?_; rintro e w1 ⟨rfl, hb1⟩; rw [HP.out])
        go_ret
        exact ⟨by rw [HR.out]; rfl, hb.trans (hb1.mono hb.size)⟩
      | true =>
        have HP := Lib.hid hp
        clear hp
        go_wp2_with (refine (HF.out x HM.out _).mono ?_; rintro e w1 ⟨rfl, hb1⟩; rw [HP.out])
        have hlt := HK.out
        go_roundw
        case rel => exact ⟨k + 1, by omega, by go_num, by rw [HX.out, HA.out, HP.out]; rfl, hb.trans (hb1.mono hb.size)⟩
        case measure => simp [intOf]; omega
    · obtain rfl : k = vs.length := by omega
      have HR : Hid (vs.all p = true) := by have := HA.out; rwa [List.take_length] at this
      go_wp2
      go_ret
      exact ⟨by rw [HR.out]; rfl, hb⟩

/-- Numbers and truths are numeric. -/
def numB (x : FV) : Bool := decide (x.kind = 1 ∨ x.kind = 3)

set_option maxRecDepth 100000 in
theorem numeric_one (x : FV) (w : World) (hx : x.kind ≠ 2) :
    Calls Tryz.prog 171 #[.agg #[.int .i64 x.kind, .int .i64 x.num, .int .i64 x.den, .string x.text, .slice none 0 0]] w fun e w' => e = .returned (.bool (numB x)) ∧ Below w.heap.size w w' := by
  by_cases h1 : x.kind = 1
  · have e : numB x = true := by simp [numB, h1]
    rw [e, h1]
    clear h1 hx e
    go_enter Tryz.func171, Tryz.ntmps171
    go_wp2
    go_ret
    exact ⟨rfl, (Below.refl _ _).alloc (Nat.le_refl _) _⟩
  · by_cases h3 : x.kind = 3
    · have e : numB x = true := by simp [numB, h3]
      rw [e, h3]
      clear h1 h3 hx e
      go_enter Tryz.func171, Tryz.ntmps171
      go_wp2
      go_ret
      exact ⟨rfl, (Below.refl _ _).alloc (Nat.le_refl _) _⟩
    · have e : numB x = false := by simp [numB, h1, h3]
      have t1 : (x.kind == 1) = false := by simpa using h1
      have t2 : (x.kind == 2) = false := by simpa using hx
      have t3 : (x.kind == 3) = false := by simpa using h3
      rw [e]
      clear h1 h3 hx e
      go_enter Tryz.func171, Tryz.ntmps171
      go_wp2
      go_ret
      exact ⟨rfl, (Below.refl _ _).alloc (Nat.le_refl _) _⟩

theorem enter_numeric (a : Value) (W : World) : Sem.run Tryz.prog (callFunc 171 #[a]) W = .ok (.enter 171 #[a]) W := by kernel_rfl

/-- 'every(args, numeric)'. -/
theorem every_numeric (vs : List FV) (v : Value) (w : World) (hr : Row w w.heap.size 5 v (vs.map FV.list)) (hn : vs.length ≤ 1000000) (hk : ∀ x ∈ vs, x.kind ≠ 2) :
    Calls Tryz.prog 170 #[v, .func (.func 171) #[] #[]] w fun e w' => e = .returned (.bool (vs.all numB)) ∧ Below w.heap.size w w' :=
  every_flat _ numB vs v w hr hn enter_numeric fun x hx W => numeric_one x W (hk x hx)

end Go.Proofs.YtkglbccdiofnkaaGreatDoor
