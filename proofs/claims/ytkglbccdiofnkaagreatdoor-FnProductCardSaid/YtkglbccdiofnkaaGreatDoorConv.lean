/-
Values of the reference turned into those of the program, at values that are no matrices: 'of', 'all', 'same'.
-/
import Derived.Test.YtkglbccdiofnkaaGreatDoorFlat
namespace Go.Proofs.YtkglbccdiofnkaaGreatDoor
open Go.RowKit Go.Fl

/-- A value of the reference that is well formed, and no matrix. -/
structure FV.ok (x : FV) : Prop where
  notMatrix : x.kind ≠ 5
  number : x.kind = 1 → x.num ≤ 99999999999 ∧ -99999999999 ≤ x.num ∧ (x.den = 1 ∨ x.den = 2 ∨ x.den = 4 ∨ x.den = 8 ∨ x.den = 16)
  logic : x.kind = 3 → x.num = 0 ∨ x.num = 1
/-- How many sixteenths it is. -/
def FV.six (x : FV) : Int := if x.kind = 1 then x.num * (16 / x.den) else if x.kind = 3 then 16 * x.num else 0

theorem floatOfInt_sx (n : Int) (h1 : n < 9007199254740992) (h2 : -9007199254740992 < n) : floatOfInt .f64 n = sx (16 * n) := ofInt_sx n h1 h2

theorem div_den (n d : Int) (h1 : n ≤ 99999999999) (h2 : -99999999999 ≤ n) (hd : d = 1 ∨ d = 2 ∨ d = 4 ∨ d = 8 ∨ d = 16) :
    floatBits .quo .f64 (sx (16 * n)) (sx (16 * d)) = some (sx (n * (16 / d))) := by
  have h : ∀ k : Nat, k ≤ 4 → floatBits .quo .f64 (sx (16 * n)) (sx (16 * 2 ^ k)) = some (sx (n * 2 ^ (4 - k))) := fun k hk => div_sx n k hk (by omega) (by omega)
  rcases hd with rfl | rfl | rfl | rfl | rfl
  · exact h 0 (by omega)
  · exact h 1 (by omega)
  · exact h 2 (by omega)
  · exact h 3 (by omega)
  · exact h 4 (by omega)

set_option maxRecDepth 100000 in
set_option maxHeartbeats 1000000 in
theorem of_one (x : FV) (w : World) (hx : x.ok) :
    Calls Tryz.prog 41 #[.agg #[.int .i64 x.kind, .int .i64 x.num, .int .i64 x.den, .string x.text, .slice none 0 0]] w
      fun e w' => e = .returned (.agg #[.int .i64 x.kind, .float .f64 (sx x.six), .string x.text, .slice none 0 0]) ∧ Below w.heap.size w w' := by
  have hu26 := Tryz.underlying31
  have hu53 := Tryz.underlying49
  by_cases h1 : x.kind = 1
  · obtain ⟨h2, h3, h4⟩ := hx.number h1
    have e1 : x.six = x.num * (16 / x.den) := by unfold FV.six; rw [if_pos h1]
    have d1 := floatOfInt_sx x.num (by omega) (by omega)
    have d2 := floatOfInt_sx x.den (by omega) (by omega)
    have hq : ∀ w, (binOp .quo 46 (.float .f64 (sx (16 * x.num))) (.float .f64 (sx (16 * x.den)))).run Tryz.prog w = .ok (.float .f64 (sx x.six)) w := fun w => run_float_arith w .quo _ .f64 _ _ _ (by rw [e1]; exact div_den x.num x.den h2 h3 h4)
    rw [h1]
    clear h1 e1 h2 h3 h4 hx
    go_enter Tryz.func41, Tryz.ntmps41
    go_wp2
    refine bodyPost_ret (v := .agg #[.int .i64 1, .float .f64 (sx x.six), .string x.text, .slice none 0 0]) (by simp [results, Tryz.results41, go_sem]) rfl ⟨rfl, ?_⟩
    exact (((Below.refl _ _).alloc (Nat.le_refl _) _).alloc (by simp) _).alloc (by simp; omega) _
  · by_cases h3 : x.kind = 3
    · have e1 : x.six = 16 * x.num := by unfold FV.six; rw [if_neg h1, if_pos h3]
      have hb := hx.logic h3
      have d1 := floatOfInt_sx x.num (by omega) (by omega)
      rw [e1, h3]
      clear h1 h3 e1 hb hx
      go_enter Tryz.func41, Tryz.ntmps41
      go_wp2
      refine bodyPost_ret (v := .agg #[.int .i64 3, .float .f64 (sx (16 * x.num)), .string x.text, .slice none 0 0]) (by simp [results, Tryz.results41, go_sem]) rfl ⟨rfl, ?_⟩
      exact (((Below.refl _ _).alloc (Nat.le_refl _) _).alloc (by simp) _).alloc (by simp; omega) _
    · have e1 : x.six = 0 := by unfold FV.six; rw [if_neg h1, if_neg h3]
      have t1 : (x.kind == 1) = false := by simpa using h1
      have t3 : (x.kind == 3) = false := by simpa using h3
      have t5 : (x.kind == 5) = false := by simpa using hx.notMatrix
      rw [e1, sx_zero]
      clear h1 h3 e1 hx
      go_enter Tryz.func41, Tryz.ntmps41
      go_wp2
      refine bodyPost_ret (v := .agg #[.int .i64 x.kind, .float .f64 0, .string x.text, .slice none 0 0]) (by simp [results, Tryz.results41, go_sem]) rfl ⟨rfl, ?_⟩
      exact (((Below.refl _ _).alloc (Nat.le_refl _) _).alloc (by simp) _).alloc (by simp; omega) _

/-- The cells of a value of the program. -/
noncomputable abbrev FV.ilist (x : FV) : List Value := [.int .i64 x.kind, .float .f64 (sx x.six), .string x.text, .slice none 0 0]

theorem ivalInfo : (Tryz.prog.info? 49).map (fun i => (i.zero, i.size, i.bytes)) = some (some (.agg #[.int .i64 0, .float .f64 0, .string ⟨#[]⟩, .slice none 0 0]), 4, 56) := by kernel_rfl

theorem map_take {α β : Type} (f : α → β) (l : List α) (k : Nat) (x : α) (h : l[k]? = some x) : (l.take (k + 1)).map f = (l.take k).map f ++ [f x] := by
  rw [List.take_add_one, h]
  simp

set_option maxRecDepth 100000 in
set_option maxHeartbeats 1000000 in
theorem all_flat (vs : List FV) (v : Value) (w : World) (hr : Row w w.heap.size 5 v (vs.map FV.list)) (hk : ∀ x ∈ vs, x.ok) (hn : vs.length ≤ 1000000) :
    Calls Tryz.prog 27 #[v] w fun e w' => ∃ v', e = .returned v' ∧ Row w' w'.heap.size 4 v' (vs.map FV.ilist) ∧ Below w.heap.size w w' := by
  obtain ⟨A, c, rfl, hc1, hc2, hc3⟩ := hr
  rw [List.length_map] at hc1 hc3 ⊢
  go_enter Tryz.func27, Tryz.ntmps27
  go_wp2
  go_loopw [3, 4] (fun s i wr => ∃ k : Nat, k ≤ vs.length ∧ i = .int .i64 k ∧ Own wr w.heap.size 49 4 s ((vs.take k).map FV.ilist) ∧ Below w.heap.size w wr) (fun _ i _ => vs.length - (intOf i).toNat)
  case atStart => exact ⟨0, Nat.zero_le _, rfl, Own.nil_ _ _ _ _, Below.refl _ _⟩
  case round =>
    obtain ⟨k, hk1, rfl, hown, hb⟩ := hrel
    by_cases hlt : k < vs.length
    · obtain ⟨g, o, rfl, hg, hcell⟩ := hc3 (by omega)
      obtain ⟨x, hxk⟩ : ∃ x, vs[k]? = some x := ⟨_, List.getElem?_eq_getElem hlt⟩
      have hok := hk x (List.mem_of_getElem? hxk)
      have hx : (vs.map FV.list)[k]? = some (FV.list x) := by rw [List.getElem?_map, hxk]; rfl
      have q : ∀ j u, (FV.list x)[j]? = some u → wr.cell? ⟨g, o + k * 5 + j, none⟩ = some u := fun j u hu => (hb.cell (p := ⟨g, o + k * 5 + j, none⟩) hg).trans (hcell k _ hx j u hu)
      have q0 := q 0 _ rfl
      have q1 := q 1 _ rfl
      have q2 := q 2 _ rfl
      have q3 := q 3 _ rfl
      have q4 := q 4 _ rfl
      have hu26 := Tryz.underlying31
      have HX : Hid ((vs.take (k + 1)).map FV.ilist = (vs.take k).map FV.ilist ++ [FV.ilist x]) := map_take _ _ _ _ hxk
      have HL : Hid (((vs.take k).map FV.ilist).length = k) := by rw [Hid, List.length_map, List.length_take]; omega
      have HK : Hid (k < vs.length) := hlt
      clear q hx hxk hcell hc3 hk hc2
      simp only [Nat.add_zero] at q0
      go_wp2_with (first
        | (go_at_call 41; refine (of_one x _ hok).mono ?_; rintro e w1 ⟨rfl, hb1⟩)
        | (at_builtin; refine app_one (w0 := w) w.heap.size rfl (.tmp 11) (.tmp 17) 50 49 _ 4 56 rfl Tryz.underlying50 ivalInfo rfl (by omega) (by omega) _ _ (FV.ilist x) rfl rfl rfl (by simp [FV.ilist, Value.oneCell']) (by simp) (hown.below hb1) (hb.trans (hb1.mono hb.size)) (Nat.le_trans hb.size hb1.size) (by rw [HL.out]; omega) ?_; intro v2 w2 hown2 hb2 _))
      have hlt := HK.out
      go_roundw
      case rel => exact ⟨k + 1, by omega, by go_num, by rw [HX.out]; exact hown2, hb2⟩
      case measure => simp [intOf]; omega
    · obtain rfl : k = vs.length := by omega
      rw [List.take_length] at hown
      go_wp2
      go_ret
      exact ⟨_, rfl, hown.row, hb⟩

theorem six_bound (x : FV) (hx : x.ok) : x.six < 9007199254740992 ∧ -9007199254740992 < x.six := by
  unfold FV.six
  by_cases h1 : x.kind = 1
  · rw [if_pos h1]
    obtain ⟨h2, h3, h4⟩ := hx.number h1
    rcases h4 with h | h | h | h | h <;> rw [h] <;> simp <;> omega
  · rw [if_neg h1]
    by_cases h3 : x.kind = 3
    · rw [if_pos h3]
      have := hx.logic h3
      omega
    · rw [if_neg h3]
      omega

set_option maxRecDepth 100000 in
set_option maxHeartbeats 1000000 in
theorem same_one (x : FV) (y : Nat) (w : World) (hx : x.ok) (hy : Sx y x.six) :
    Calls Tryz.prog 26 #[.agg #[.int .i64 x.kind, .float .f64 y, .string x.text, .slice none 0 0], .agg #[.int .i64 x.kind, .int .i64 x.num, .int .i64 x.den, .string x.text, .slice none 0 0]] w
      fun e w' => e = .returned (.bool true) ∧ Below w.heap.size w w' := by
  have hu26 := Tryz.underlying31
  have hu53 := Tryz.underlying49
  have hs := six_bound x hx
  have hc : (FloatKind.f64.format.order y (sx x.six) != some .eq) = false := by
    have := Sx.ne_ hy (Sx.sx hs.1 hs.2)
    exact this.trans (by simp)
  clear hs
  go_enter Tryz.func26, Tryz.ntmps26
  go_wp2_with (go_at_call 41; refine (of_one x _ hx).mono ?_; rintro e w1 ⟨rfl, hb1⟩; obtain ⟨ca, fa, za, ka⟩ := box_cells (heap_new2a _ _ _) hb1; obtain ⟨cb, fb, zb, kb⟩ := box_cells (heap_new2b _ _ _) hb1)
  go_loop [6] (fun i => i = .int .i64 0) (fun _ => 0)
  case atStart => rfl
  case round =>
    subst hrel
    go_wp2
    go_ret
    exact ⟨rfl, ((((Below.refl w.heap.size w).alloc (Nat.le_refl _) _).alloc (by simp) _).trans (hb1.mono (by simp; omega))).alloc (by have := hb1.size; simp at this; omega) _⟩

end Go.Proofs.YtkglbccdiofnkaaGreatDoor
