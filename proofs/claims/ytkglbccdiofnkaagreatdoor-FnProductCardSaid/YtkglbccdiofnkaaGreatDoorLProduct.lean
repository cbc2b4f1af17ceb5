/-
The law FnProduct: it returns true, whatever the cells.
-/
import Derived.Test.YtkglbccdiofnkaaGreatDoorDoorT
import Derived.Test.YtkglbccdiofnkaaGreatDoorCallProd
import Derived.Test.YtkglbccdiofnkaaGreatDoorProdK
import Derived.Test.YtkglbccdiofnkaaGreatDoorAgrT
import Derived.Test.YtkglbccdiofnkaaGreatDoorWith
namespace Go.Proofs.YtkglbccdiofnkaaGreatDoor
open Go.RowKit Go.Fl

theorem mulV_text (a b : FV) (_h : (mulV a b).kind = 1) : (mulV a b).text = ⟨#[]⟩ := by
  unfold mulV frc
  split
  · split
    · unfold fr; split <;> rfl
    · rfl
  · rfl
theorem prodV_text (l : List FV) (h : (prodV l).kind = 1) : (prodV l).text = ⟨#[]⟩ := by
  rcases List.eq_nil_or_concat l with e | ⟨l', x, e⟩
  · subst e; rfl
  · subst e
    rw [List.concat_eq_append, prodV_snoc] at h ⊢
    exact mulV_text _ _ h
theorem mulV_kind (a b : FV) : (mulV a b).kind = 1 ∨ (mulV a b).kind = 6 := by
  unfold mulV frc
  split
  · split
    · rcases fr_two ((a.num * b.num) * 16 / (a.den * b.den)) with h | h
      · exact .inl h
      · rw [h]; exact .inr rfl
    · exact .inr rfl
  · exact .inr rfl
theorem prodV_kind (l : List FV) : (prodV l).kind = 1 ∨ (prodV l).kind = 6 := by
  rcases List.eq_nil_or_concat l with e | ⟨l', x, e⟩
  · subst e; exact .inl rfl
  · subst e
    rw [List.concat_eq_append, prodV_snoc]
    exact mulV_kind _ _

theorem product_agrees (al : List Arg) (rows : List (List FV)) (bl : List Arg) (hal : al = .tbl rows :: bl) (hrw : ∀ rows, Arg.tbl rows ∈ al → 0 < rows.length) (v : Value) (w : World) (hr : ARow w w.heap.size v al) (hok : ∀ a ∈ al, a.good) (hn : al.length ≤ 1000000) (hn2 : (flats al).length ≤ 1000000) :
    Calls Tryz.prog 10 #[.func (.func 11) #[] #[], .string ⟨#[80, 82, 79, 68, 85, 67, 84]⟩, v] w fun e w' => e = .returned (.bool true) ∧ Below w.heap.size w w' := by
  refine agrees_args _ _ al (rFold true prodF al) v w hr hok hn hn2 (rFold_ok true prodF al hok prodF_ok) ?_ enterT_PRODUCT ?_
  · exact fun W hW => call_Product al rows bl hal v W ((hr.below hW).more hW.size) hok hn hn2
  · intro _ h6 W v' hR
    have hfine : al.all (fineA true) = true := by
      cases h : al.all (fineA true) with
      | true => rfl
      | false => exfalso; apply h6; unfold rFold; rw [h]; rfl
    have hbad := strict_bad al hfine
    have e : rFold true prodF al = prodF (memA al) := by unfold rFold; rw [if_pos hfine, hbad]
    have hne : memA al ≠ [] := by
      intro h
      apply h6
      rw [e, h]
      rfl
    have e2 : prodF (memA al) = prodV (memA al) := by unfold prodF; rw [if_neg hne]
    rw [e, e2] at h6 ⊢
    have hk : (prodV (memA al)).kind = 1 := by
      rcases prodV_kind (memA al) with h | h
      · exact h
      · exact absurd h h6
    refine implT_PRODUCT al _ v' W hR hok hrw hn fun W f l es hI => ?_
    refine (PRODUCT_fn al l es f W hok hfine hk (by rw [hal]; simp) hn hI).mono fun e' w' ⟨⟨y, hy, he⟩, hb⟩ => ?_
    refine ⟨⟨y, ⟨#[]⟩, false, ⟨#[]⟩, 1⟩, ⟨.inl rfl, ?_, hy, ?_⟩, he, hb⟩
    · rw [hk]; rfl
    · rw [prodV_text _ hk]; rfl

set_option maxRecDepth 100000 in
set_option maxHeartbeats 1000000 in
theorem law_Product (its : List It) (cols : Int) (more : List It) (v mv : Value) (w : World) (hr : Row w w.heap.size 3 v (its.map It.list)) (hm : Row w w.heap.size 3 mv (more.map It.list)) :
    Calls Tryz.prog 3 #[v, .int .i64 cols, mv] w fun e w' => e = .returned (.bool true) ∧ Below w.heap.size w w' := by
  have HR := Lib.hid hr
  have HM := Lib.hid hm
  have HAG : Hid (∀ W v', fitB its = true → fitB more = true → ARow W W.heap.size v' (withA its cols more) → Calls Tryz.prog 10 #[.func (.func 11) #[] #[], .string ⟨#[80, 82, 79, 68, 85, 67, 84]⟩, v'] W fun e w' => e = .returned (.bool true) ∧ Below W.heap.size W w') := by
    intro W v' _ _ h
    exact product_agrees _ _ _ rfl (withA_rows its cols more) v' W h (withA_good its cols more) (withA_len its cols more) (withA_flats its cols more)
  obtain ⟨A, n, c, rfl⟩ : ∃ A n c, v = .slice A n c := by
    obtain ⟨A, c, h, _⟩ := hr
    exact ⟨A, _, c, h⟩
  obtain ⟨A2, n2, c2, rfl⟩ : ∃ A n c, mv = .slice A n c := by
    obtain ⟨A, c, h, _⟩ := hm
    exact ⟨A, _, c, h⟩
  clear hr hm
  cases h1 : fitB its with
  | false =>
    have H1 := Lib.hid h1
    clear h1
    go_enter Tryz.func3, Tryz.ntmps3
    go_wp2_with (go_at_call 9; refine (fits1_any its _ _ HR.out).mono ?_; rintro e w1 ⟨rfl, hb1⟩; rw [H1.out])
    go_ret
    exact ⟨rfl, hb1⟩
  | true =>
    have H1 := Lib.hid h1
    clear h1
    cases h2 : fitB more with
    | false =>
      have H2 := Lib.hid h2
      clear h2
      go_enter Tryz.func3, Tryz.ntmps3
      go_wp2_with fail
      refine (fits1_any its _ _ HR.out).mono ?_
      rintro e w1 ⟨rfl, hb1⟩
      rw [H1.out]
      go_wp2_with fail
      refine (fits1_any more _ _ ((HM.out.below hb1).more hb1.size)).mono ?_
      rintro e w2 ⟨rfl, hb2⟩
      rw [H2.out]
      go_wp2
      go_ret
      exact ⟨rfl, hb1.trans (hb2.mono hb1.size)⟩
    | true =>
      have H2 := Lib.hid h2
      clear h2
      go_enter Tryz.func3, Tryz.ntmps3
      go_wp2_with fail
      refine (fits1_any its _ _ HR.out).mono ?_
      rintro e w1 ⟨rfl, hb1⟩
      rw [H1.out]
      go_wp2_with fail
      refine (fits1_any more _ _ ((HM.out.below hb1).more hb1.size)).mono ?_
      rintro e w2 ⟨rfl, hb2⟩
      rw [H2.out]
      have pb2 := hb1.trans (hb2.mono hb1.size)
      go_wp2_with (first
        | (go_at_call 12; refine (with_any its cols more _ _ _ ((HR.out.below pb2).more pb2.size) ((HM.out.below pb2).more pb2.size) (fitB_len H1.out) (fitB_len H2.out)).mono ?_; rintro e w3 ⟨v3, rfl, hA3, hb3⟩; have HA3 := Lib.hid hA3; clear hA3)
        | (go_at_call 10; refine (HAG.out _ _ H1.out H2.out HA3.out).mono ?_; rintro e w4 ⟨rfl, hb4⟩))
      go_ret
      exact ⟨rfl, pb2.trans ((hb3.mono pb2.size).trans (hb4.mono (Nat.le_trans pb2.size hb3.size)))⟩

end Go.Proofs.YtkglbccdiofnkaaGreatDoor
