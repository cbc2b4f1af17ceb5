/-
'fold' of the reference.
-/
import Derived.Test.YtkglbccdiofnkaaGreatDoorFoldT
namespace Go.Proofs.YtkglbccdiofnkaaGreatDoor
open Go.RowKit

theorem below_setN {w w1 : World} {g : Nat} (h : Below w.heap.size w w1) (hg : w.heap.size ≤ g) (j : Nat) (v : Value) : Below w.heap.size w (w1.setCell ⟨g, j, none⟩ v) := h.setCell (p := ⟨g, j, none⟩) hg v
theorem rFold_no {strict : Bool} {f : List FV → FV} {al : List Arg} (h : al.all (fineA strict) = false) : rFold strict f al = ⟨6, 0, 0, ⟨#[]⟩⟩ := by unfold rFold; rw [h]; rfl
theorem rFold_bad {strict : Bool} {f : List FV → FV} {al : List Arg} (h : al.all (fineA strict) = true) (h1 : hasBad al = true) : rFold strict f al = badV al := by
  unfold rFold badV
  unfold hasBad at h1
  rw [if_pos h]
  cases hb : badL al with
  | none => rw [hb] at h1; cases h1
  | some e => rfl
theorem rFold_yes {strict : Bool} {f : List FV → FV} {al : List Arg} (h : al.all (fineA strict) = true) (h1 : hasBad al = false) : rFold strict f al = f (memA al) ∧ badL al = none := by
  unfold rFold
  unfold hasBad at h1
  rw [if_pos h]
  cases hb : badL al with
  | none => exact ⟨rfl, rfl⟩
  | some e => rw [hb] at h1; cases h1

theorem readback {w1 : World} {g : Nat} {T : TypeId} {a b c d e : Value} (h : w1.heap[g]? = some (.cells #[a, b, c, d, e] T)) (v0 v1 v2 v3 v4 : Value) (o : Obj) (j : Nat) :
    ((((((w1.setCell ⟨g, 0, none⟩ v0).setCell ⟨g, 1, none⟩ v1).setCell ⟨g, 2, none⟩ v2).setCell ⟨g, 3, none⟩ v3).setCell ⟨g, 4, none⟩ v4).alloc o).cell? ⟨g, j, none⟩ = (#[v0, v1, v2, v3, v4] : Array Value)[j]? := by
  have h1 := row_facts (box5 h v0 v1 v2 v3 v4)
  exact (World.cell?_alloc_lt _ o ⟨g, j, none⟩ h1.2.2).trans (h1.1 j)
theorem set5_alloc {w w1 : World} (h : Below w.heap.size w w1) (v0 v1 v2 v3 v4 : Value) (o : Obj) :
    Below w.heap.size w ((((((w1.setCell ⟨w.heap.size, 0, none⟩ v0).setCell ⟨w.heap.size, 1, none⟩ v1).setCell ⟨w.heap.size, 2, none⟩ v2).setCell ⟨w.heap.size, 3, none⟩ v3).setCell ⟨w.heap.size, 4, none⟩ v4).alloc o) :=
  (set5 h v0 v1 v2 v3 v4).alloc (set5 h v0 v1 v2 v3 v4).size o

set_option maxRecDepth 100000 in
set_option maxHeartbeats 2000000 in
theorem fold_any (F : Nat) (strict : Bool) (f : List FV → FV) (al : List Arg) (hal : al ≠ []) (v : Value) (w : World) (hr : ARow w w.heap.size v al) (hg : ∀ a ∈ al, a.good) (hn : al.length ≤ 1000000) (hn2 : (flats al).length ≤ 1000000) (hE0 : strict = false → ∀ f, Arg.one f ∈ al → f.kind ≠ 4)
    (hE : ∀ (a : Value) (W : World), Sem.run Tryz.prog (callFunc F #[a]) W = .ok (.enter F #[a]) W)
    (hF : al.all (fineA strict) = true → badL al = none → ∀ (v : Value) (W : World), Row W W.heap.size 5 v ((memA al).map FV.list) → Calls Tryz.prog F #[v] W fun e w' => e = .returned (.agg #[.int .i64 (f (memA al)).kind, .int .i64 (f (memA al)).num, .int .i64 (f (memA al)).den, .string (f (memA al)).text, .slice none 0 0]) ∧ Below W.heap.size W w') :
    Calls Tryz.prog 90 #[v, .bool strict, .func (.func F) #[] #[]] w fun e w' => e = .returned (.agg #[.int .i64 (rFold strict f al).kind, .int .i64 (rFold strict f al).num, .int .i64 (rFold strict f al).den, .string (rFold strict f al).text, .slice none 0 0]) ∧ Below w.heap.size w w' := by
  have hu26 := Tryz.underlying31
  obtain ⟨A, c, rfl, hAc⟩ := hr.len
  have hpos : 0 < al.length := List.length_pos_iff.2 hal
  have hz : ¬ al.length = 0 := by omega
  have HMm : Hid (∀ W, Below w.heap.size w W → Calls Tryz.prog 190 #[.slice A al.length c, .bool strict] W (Memb strict al W)) := fun W hW => members_any strict al _ W ((hr.below hW).more hW.size) hg hn hn2 hE0
  have HF := Lib.hid hF
  clear hr hg hn2 hE0 hF hal hpos
  cases hfine : al.all (fineA strict) with
  | false =>
    have HX : Hid (rFold strict f al = ⟨6, 0, 0, ⟨#[]⟩⟩) := rFold_no hfine
    rw [HX.out]
    have HFi := Lib.hid hfine
    clear hfine
    go_enter Tryz.func90, Tryz.ntmps90
    go_wp2_with fail
    refine (HMm.out _ ((Below.refl _ _).alloc (Nat.le_refl _) _)).mono ?_
    rintro e w1 ⟨hb1, h1, _⟩
    obtain rfl := h1 HFi.out
    obtain ⟨c1, f1, z1, k1⟩ := box_cells (heap_new1 _ _) hb1
    have pb := below_one hb1
    have q := readback k1
    clear h1
    go_wp2_with fail
    refine bodyPost_ret (v := .agg #[.int .i64 6, .int .i64 0, .int .i64 0, .string ⟨#[]⟩, .slice none 0 0]) (by simp [results, Tryz.results90, go_sem, q]) rfl ⟨rfl, ?_⟩
    exact set5_alloc pb _ _ _ _ _ _
  | true =>
    cases hb : hasBad al with
    | true =>
      have HX : Hid (rFold strict f al = badV al) := rFold_bad hfine hb
      rw [HX.out]
      obtain ⟨X, hX⟩ : ∃ X, X = badV al := ⟨_, rfl⟩
      have HM2 : Hid (∀ W, Below w.heap.size w W → Calls Tryz.prog 190 #[.slice A al.length c, .bool strict] W fun e w' => Below W.heap.size W w' ∧ ∃ v', e = .returned (.tuple #[v', .agg #[.int .i64 X.kind, .int .i64 X.num, .int .i64 X.den, .string X.text, .slice none 0 0], .bool false])) := by
        intro W hW
        refine (HMm.out W hW).mono ?_
        rintro e w1 ⟨hb1, _, h1⟩
        obtain ⟨v', h2, _⟩ := h1 hfine
        exact ⟨hb1, v', by rw [h2, hX, hb]; rfl⟩
      rw [← hX]
      clear hfine hb hX HX HMm
      go_enter Tryz.func90, Tryz.ntmps90
      go_wp2_with fail
      refine (HM2.out _ ((Below.refl _ _).alloc (Nat.le_refl _) _)).mono ?_
      rintro e w1 ⟨hb1, v', rfl⟩
      obtain ⟨c1, f1, z1, k1⟩ := box_cells (heap_new1 _ _) hb1
      have pb := below_one hb1
      have q := readback k1
      go_wp2_with fail
      refine bodyPost_ret (v := .agg #[.int .i64 X.kind, .int .i64 X.num, .int .i64 X.den, .string X.text, .slice none 0 0]) (by simp [results, Tryz.results90, go_sem, q]) rfl ⟨rfl, ?_⟩
      exact set5_alloc pb _ _ _ _ _ _
    | false =>
      obtain ⟨hX, hbn⟩ := rFold_yes (f := f) hfine hb
      rw [hX]
      obtain ⟨Y, hY⟩ : ∃ Y, Y = f (memA al) := ⟨_, rfl⟩
      have HM2 : Hid (∀ W, Below w.heap.size w W → Calls Tryz.prog 190 #[.slice A al.length c, .bool strict] W fun e w' => Below W.heap.size W w' ∧ ∃ v' X, e = .returned (.tuple #[v', .agg #[.int .i64 (FV.kind X), .int .i64 X.num, .int .i64 X.den, .string X.text, .slice none 0 0], .bool true]) ∧ Row w' w'.heap.size 5 v' ((memA al).map FV.list)) := by
        intro W hW
        refine (HMm.out W hW).mono ?_
        rintro e w1 ⟨hb1, _, h1⟩
        obtain ⟨v', h2, h3⟩ := h1 hfine
        exact ⟨hb1, v', badV al, by rw [h2, hb]; rfl, h3⟩
      have HF2 := Lib.hid (HF.out hfine hbn)
      rw [← hY] at HF2 ⊢
      clear hfine hb hX HMm HF hY
      go_enter Tryz.func90, Tryz.ntmps90
      go_wp2_with fail
      refine (HM2.out _ ((Below.refl _ _).alloc (Nat.le_refl _) _)).mono ?_
      rintro e w1 ⟨hb1, v', X, rfl, hrow⟩
      obtain ⟨c1, f1, z1, k1⟩ := box_cells (heap_new1 _ _) hb1
      have HROW := Lib.hid hrow
      have HB1 := Lib.hid hb1
      have K1 := Lib.hid k1
      clear hrow hb1 k1
      go_wp2_with fail
      refine (HF2.out _ _ ((HROW.out.alloc (Nat.le_refl _) _).more (by simp))).mono ?_
      rintro e w2 ⟨rfl, hb2⟩
      obtain ⟨c2, f2, z2, k2⟩ := box_cells ((Below.heap_alloc _ _ _ z1).trans K1.out) hb2
      clear c1 f1
      go_wp2_with fail
      refine bodyPost_ret (v := .agg #[.int .i64 Y.kind, .int .i64 Y.num, .int .i64 Y.den, .string Y.text, .slice none 0 0]) (by simp [results, Tryz.results90, go_sem, c2]) rfl ⟨rfl, ?_⟩
      have pb := (below_one HB1.out).alloc (below_one HB1.out).size (.cells #[.int .i64 X.kind, .int .i64 X.num, .int .i64 X.den, .string X.text, .slice none 0 0] 31)
      exact set5 (below_next pb pb.size hb2) _ _ _ _ _

end Go.Proofs.YtkglbccdiofnkaaGreatDoor
