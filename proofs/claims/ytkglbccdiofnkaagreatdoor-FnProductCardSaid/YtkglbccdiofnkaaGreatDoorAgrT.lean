/-
'agrees' of the laws, at arguments among which there are tables, and a result that is none.
-/
import Derived.Test.YtkglbccdiofnkaaGreatDoorAgrees
import Derived.Test.YtkglbccdiofnkaaGreatDoorAllT
namespace Go.Proofs.YtkglbccdiofnkaaGreatDoor
open Go.RowKit Go.Fl

set_option maxRecDepth 100000 in
set_option maxHeartbeats 2000000 in
theorem agrees_args (F : Nat) (name : ByteArray) (al : List Arg) (r : FV) (v : Value) (w : World) (hr : ARow w w.heap.size v al) (hok : ∀ a ∈ al, a.good) (hn : al.length ≤ 1000000) (hn2 : (flats al).length ≤ 1000000) (hrok : r.ok)
    (hC : ∀ W, Below w.heap.size w W → Calls Tryz.prog 23 #[.string name, v] W fun e w' => e = .returned (.agg #[.int .i64 r.kind, .int .i64 r.num, .int .i64 r.den, .string r.text, .slice none 0 0]) ∧ Below W.heap.size W w')
    (hE : ∀ (a : Value) (W : World), Sem.run Tryz.prog (callFunc F #[a]) W = .ok (.enter F #[a]) W)
    (hF : anyUnsure (flats al) = false → r.kind ≠ 6 → ∀ W v', IRow W W.heap.size v' al → Calls Tryz.prog F #[v'] W (Says r W)) :
    Calls Tryz.prog 10 #[.func (.func F) #[] #[], .string name, v] w fun e w' => e = .returned (.bool true) ∧ Below w.heap.size w w' := by
  obtain ⟨A, c, rfl⟩ : ∃ A c, v = .slice A al.length c := by
    obtain ⟨A, c, h, _⟩ := hr.len
    exact ⟨A, c, h⟩
  have HC := Lib.hid hC
  have HF := Lib.hid hF
  have HRr := Lib.hid hr
  have HOK := Lib.hid hok
  have hu26 := Tryz.underlying31
  clear hC hF hr hok
  have HFit : Hid (∀ a ∈ al, a.fits) := fun a ha => (HOK.out a ha).fits
  cases hU : anyUnsure (flats al) with
  | true =>
    have HU := Lib.hid hU
    clear hU
    go_enter Tryz.func10, Tryz.ntmps10
    go_wp2_with (first
      | (go_at_call 23; refine (HC.out _ (Below.refl _ _)).mono ?_; rintro e w1 ⟨rfl, hb1⟩)
      | (go_at_call 25; refine (table_any _ _ _ _).mono ?_; rintro e w2 ⟨rfl, hb2⟩))
    have hb02 : Below w.heap.size w w2 := hb1.trans ((below_two hb2).mono hb1.size)
    have hRW : ARow w2 w2.heap.size (.slice A al.length c) al := (HRr.out.below hb02).more hb02.size
    have hL : Row w2 w2.heap.size 1 (.slice (some ⟨w1.heap.size + 1, 0, none⟩) 1 1) [[.slice A al.length c]] := ((Row.lit1 _ _ [Value.slice A al.length c] _ (by simp)).below hb2).more hb2.size
    refine (doubtful_args al _ _ _ (.slice A al.length c) _ hL hRW HFit.out hn hn2).mono ?_
    rintro e w3 ⟨rfl, hb3⟩
    rw [HU.out]
    go_wp2
    go_ret
    exact ⟨rfl, hb02.trans (hb3.mono hb02.size)⟩
  | false =>
    have HU := Lib.hid hU
    clear hU
    by_cases h6 : r.kind = 6
    · have hU2 : Hid (anyUnsure [r] = true) := by simp [Hid, anyUnsure, h6]
      clear h6
      go_enter Tryz.func10, Tryz.ntmps10
      go_wp2_with (first
        | (go_at_call 23; refine (HC.out _ (Below.refl _ _)).mono ?_; rintro e w1 ⟨rfl, hb1⟩)
        | (go_at_call 25; refine (table_any _ _ _ _).mono ?_; rintro e w2 ⟨rfl, hb2⟩))
      have hb02 : Below w.heap.size w w2 := hb1.trans ((below_two hb2).mono hb1.size)
      have hRW : ARow w2 w2.heap.size (.slice A al.length c) al := (HRr.out.below hb02).more hb02.size
      have hL : Row w2 w2.heap.size 1 (.slice (some ⟨w1.heap.size + 1, 0, none⟩) 1 1) [[.slice A al.length c]] := ((Row.lit1 _ _ [Value.slice A al.length c] _ (by simp)).below hb2).more hb2.size
      refine (doubtful_args al _ _ _ (.slice A al.length c) _ hL hRW HFit.out hn hn2).mono ?_
      rintro e w3 ⟨rfl, hb3⟩
      rw [HU.out]
      obtain ⟨cw, fw, zw, kw⟩ := box_cells (box_cells (heap_new2a _ _ _) hb2).2.2.2 hb3
      go_wp2_with (go_at_call 24; refine (doubtful_one r _ hrok.notMatrix).mono ?_; rintro e w4 ⟨rfl, hb4⟩; rw [hU2.out])
      go_ret
      exact ⟨rfl, hb02.trans ((hb3.mono hb02.size).trans (hb4.mono (Nat.le_trans hb02.size hb3.size)))⟩
    · have hU2 : Hid (anyUnsure [r] = false) := by simp [Hid, anyUnsure, h6]
      have H6 := Lib.hid h6
      clear h6
      go_enter Tryz.func10, Tryz.ntmps10
      go_wp2_with (first
        | (go_at_call 23; refine (HC.out _ (Below.refl _ _)).mono ?_; rintro e w1 ⟨rfl, hb1⟩)
        | (go_at_call 25; refine (table_any _ _ _ _).mono ?_; rintro e w2 ⟨rfl, hb2⟩))
      have hb02 : Below w.heap.size w w2 := hb1.trans ((below_two hb2).mono hb1.size)
      have hRW : ARow w2 w2.heap.size (.slice A al.length c) al := (HRr.out.below hb02).more hb02.size
      have hL : Row w2 w2.heap.size 1 (.slice (some ⟨w1.heap.size + 1, 0, none⟩) 1 1) [[.slice A al.length c]] := ((Row.lit1 _ _ [Value.slice A al.length c] _ (by simp)).below hb2).more hb2.size
      refine (doubtful_args al _ _ _ (.slice A al.length c) _ hL hRW HFit.out hn hn2).mono ?_
      rintro e w3 ⟨rfl, hb3⟩
      rw [HU.out]
      obtain ⟨cw, fw, zw, kw⟩ := box_cells (box_cells (heap_new2a _ _ _) hb2).2.2.2 hb3
      go_wp2_with (go_at_call 24; refine (doubtful_one r _ hrok.notMatrix).mono ?_; rintro e w4 ⟨rfl, hb4⟩; rw [hU2.out]; obtain ⟨cv, fv, zv, kv⟩ := box_cells kw hb4; clear cw fw)
      have c0 := cv 0
      have c1 := cv 1
      have c2 := cv 2
      have c3 := cv 3
      have c4 := cv 4
      have hb04 : Below w.heap.size w w4 := hb02.trans ((hb3.mono hb02.size).trans (hb4.mono (Nat.le_trans hb02.size hb3.size)))
      have hRW4 : ARow w4 w4.heap.size (.slice A al.length c) al := (HRr.out.below hb04).more hb04.size
      simp at c0 c1 c2 c3 c4
      clear cv fv hb1 hb2 hb3 hb4 hRW hL
      go_region_held3 (fun w' => w'.cell? ⟨w1.heap.size, 0, none⟩ = some (.int .i64 r.kind) ∧ w'.cell? ⟨w1.heap.size, 1, none⟩ = some (.int .i64 r.num) ∧ w'.cell? ⟨w1.heap.size, 2, none⟩ = some (.int .i64 r.den) ∧ w'.cell? ⟨w1.heap.size, 3, none⟩ = some (.string r.text) ∧ w'.cell? ⟨w1.heap.size, 4, none⟩ = some (.slice none 0 0))
        (first | go_keep | exact keep5 hb5 zv c0 c1 c2 c3 c4 | exact keep5c hb6 (Nat.lt_of_lt_of_le zv hb5.size) (by assumption) | exact keep5c hb7 (Nat.lt_of_lt_of_le zv (Nat.le_trans hb5.size hb6.size)) (by assumption))
        (first
          | (go_at_call 27; refine (all_args al _ _ ?_ HOK.out hn).mono ?_; exact hRW4; rintro e w5 ⟨v5, rfl, hR5, hb5⟩)
          | (go_at_call 26; refine (same_one r _ _ hrok ?_).mono ?_; exact hy; rintro e w7 ⟨rfl, hb7⟩)
          | (refine (HF.out HU.out H6.out _ _ ?_).mono ?_; exact hR5; rintro e w6 ⟨y, hy, rfl, hb6⟩))
      go_wp2
      go_ret
      exact ⟨rfl, hb04.drew.trans ((hb5.mono hb04.size).trans ((hb6.mono (Nat.le_trans hb04.size hb5.size)).trans (hb7.mono (Nat.le_trans hb04.size (Nat.le_trans hb5.size hb6.size)))))⟩

end Go.Proofs.YtkglbccdiofnkaaGreatDoor
