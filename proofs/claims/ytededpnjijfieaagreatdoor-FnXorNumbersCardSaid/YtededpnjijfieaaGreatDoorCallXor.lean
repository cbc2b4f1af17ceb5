/-
XOR of the reference.
-/
import Derived.Test.YtededpnjijfieaaGreatDoorNoXor
import Derived.Test.YtededpnjijfieaaGreatDoorBtw
import Derived.Test.YtededpnjijfieaaGreatDoorFits
import Derived.Test.YtededpnjijfieaaGreatDoorWhole
import Derived.Test.YtededpnjijfieaaGreatDoorEveryC
import Derived.Test.YtededpnjijfieaaGreatDoorCallIsodd
import Derived.Test.YtededpnjijfieaaGreatDoorXor
namespace Go.Proofs.YtededpnjijfieaaGreatDoor
open Go.RowKit

set_option maxRecDepth 100000 in
theorem kinds_no (k n d : Int) (t : ByteArray) (A : Option Addr) (l c : Nat) (v : Value) (w : World) (hk : k ≠ 5) :
    Calls Tryz.prog 104 #[.agg #[.int .i64 k, .int .i64 n, .int .i64 d, .string t, .slice A l c], v] w fun e w' => e = .returned (.bool false) ∧ Below w.heap.size w w' := by
  have hu26 := Tryz.underlying26
  have t5 : (k != 5) = true := by simpa using hk
  clear hk
  go_enter Tryz.func104, Tryz.ntmps104
  go_wp2
  go_ret
  exact ⟨rfl, (Below.refl _ _).alloc (Nat.le_refl _) _⟩

/-- Truths and numbers may be members. -/
def logB (x : FV) : Bool := decide (x.kind = 1 ∨ x.kind = 3)

set_option maxRecDepth 100000 in
set_option maxHeartbeats 1000000 in
theorem xorMember (x : FV) (b : Nat) (w : World) (hx : x.kind = 1 ∨ x.kind = 3 ∨ x.kind = 6) (hb : w.cell? ⟨b, 0, none⟩ = some (.string ⟨#[88, 79, 82]⟩)) (hbs : b < w.heap.size) :
    Calls Tryz.prog 173 #[.agg #[.int .i64 x.kind, .int .i64 x.num, .int .i64 x.den, .string x.text, .slice none 0 0], .pointer (some ⟨b, 0, none⟩)] w fun e w' => e = .returned (.bool (logB x)) ∧ Below w.heap.size w w' := by
  have hu26 := Tryz.underlying26
  rcases hx with h | h | h
  · have e : logB x = true := by simp [logB, h]
    rw [e, h]
    clear h e
    go_enter Tryz.func173, Tryz.ntmps173
    go_wp2
    go_ret
    exact ⟨rfl, (Below.refl _ _).alloc (Nat.le_refl _) _⟩
  · have e : logB x = true := by simp [logB, h]
    rw [e, h]
    clear h e
    go_enter Tryz.func173, Tryz.ntmps173
    go_wp2
    go_ret
    exact ⟨rfl, (Below.refl _ _).alloc (Nat.le_refl _) _⟩
  · have e : logB x = false := by simp [logB, h]
    rw [e, h]
    clear h e
    go_enter Tryz.func173, Tryz.ntmps173
    go_wp2_with (go_at_call 104; refine (kinds_no _ _ _ _ _ _ _ _ _ (by omega)).mono ?_; rintro e w1 ⟨rfl, hb1⟩)
    go_ret
    exact ⟨rfl, (((Below.refl w.heap.size w).alloc (Nat.le_refl _) _).alloc (by simp) _).trans (hb1.mono (by simp; omega))⟩

theorem enter_xorMember (a cp : Value) (W : World) : Sem.run Tryz.prog (callFunc 173 #[a, cp]) W = .ok (.enter 173 #[a, cp]) W := by kernel_rfl

set_option maxRecDepth 100000 in
set_option maxHeartbeats 2000000 in
theorem fitsChoices_Xor (vs : List FV) (v : Value) (w : World) (hr : Row w w.heap.size 5 v (vs.map FV.list)) (hk : ∀ x ∈ vs, x.kind = 1 ∨ x.kind = 3 ∨ x.kind = 6) (h0 : 0 < vs.length) (hn : vs.length ≤ 30) :
    Calls Tryz.prog 80 #[.string ⟨#[88, 79, 82]⟩, v] w fun e w' => e = .returned (.tuple #[.bool (vs.all logB), .bool true]) ∧ Below w.heap.size w w' := by
  obtain ⟨B, hB⟩ : ∃ B, B = vs.all logB := ⟨_, rfl⟩
  have HE : Hid (∀ W : World, Below w.heap.size w W → W.cell? ⟨w.heap.size, 0, none⟩ = some (.string ⟨#[88, 79, 82]⟩) → w.heap.size < W.heap.size → Calls Tryz.prog 160 #[v, .func (.func 173) #[] #[.pointer (some ⟨w.heap.size, 0, none⟩)]] W fun e w' => e = .returned (.bool B) ∧ Below W.heap.size W w') := by
    rw [hB]
    intro W hW hc hs
    exact every_cap _ _ logB vs v W ((hr.below hW).more hW.size) (by omega) (fun a W' => enter_xorMember a _ W') fun x hx W' hW' => xorMember x _ W' (hk x hx) ((hW'.cell (p := ⟨w.heap.size, 0, none⟩) hs).trans hc) (Nat.lt_of_lt_of_le hs hW'.size)
  rw [← hB]
  obtain ⟨A, c, rfl⟩ : ∃ A c, v = .slice A vs.length c := by
    obtain ⟨A, c, h, _⟩ := hr
    exact ⟨A, c, by rw [List.length_map] at h; exact h⟩
  have hmf : ∀ (fn : Fn) (first cap : Array Value) (w : World), (Instr.makeFunc fn first cap).run Tryz.prog w = .ok (.func fn first cap) w := fun _ _ _ _ => rfl
  have h0' : (0 : Int) < (vs.length : Int) := by omega
  have h30 : (vs.length : Int) ≤ 30 := by omega
  clear hr hk hB
  go_enter Tryz.func80, Tryz.ntmps80
  go_wp2_with (go_at_call 160; refine (HE.out _ ((Below.refl _ _).alloc (Nat.le_refl _) _) (by rw [cell_of_row _ _ _ _ _ _ (heap_alloc_new w _)]; rfl) (by simp)).mono ?_; rintro e w1 ⟨rfl, hb1⟩)
  go_ret2
  exact ⟨rfl, below_one hb1⟩

set_option maxRecDepth 100000 in
set_option maxHeartbeats 2000000 in
theorem together_Xor (vs : List FV) (v : Value) (w : World) (hr : Row w w.heap.size 5 v (vs.map FV.list)) (hk : ∀ x ∈ vs, x.kind = 1 ∨ x.kind = 3) (h0 : 0 < vs.length) (hn : vs.length ≤ 1000000) :
    Calls Tryz.prog 134 #[.string ⟨#[88, 79, 82]⟩, v] w fun e w' => e = .returned (.agg #[.int .i64 3, .int .i64 (bv (decide (trues vs % 2 = 1))).num, .int .i64 0, .string ⟨#[]⟩, .slice none 0 0]) ∧ Below w.heap.size w w' := by
  obtain ⟨b, hbb⟩ : ∃ b, b = decide (trues vs % 2 = 1) := ⟨_, rfl⟩
  rw [← hbb]
  have HBB := Lib.hid hbb
  have HK := Lib.hid hk
  have HK5 : Hid (∀ x ∈ vs, x.kind ≠ 5) := fun x hx => by have := hk x hx; omega
  have HKF : Hid (∀ x ∈ vs, x.kind ≠ 4 ∧ x.kind ≠ 5 ∧ x.kind ≠ 6) := fun x hx => by have := hk x hx; omega
  obtain ⟨w0, hw0⟩ : ∃ w0 : World, w0 = w.alloc (.cells #[.int .i64 0, .int .i64 0, .int .i64 0, .string ⟨#[]⟩, .slice none 0 0] 26) := ⟨_, rfl⟩
  have hb0 : Below w.heap.size w w0 := by rw [hw0]; exact (Below.refl _ _).alloc (Nat.le_refl _) _
  have k0 : w0.heap[w.heap.size]? = some (.cells #[.int .i64 0, .int .i64 0, .int .i64 0, .string ⟨#[]⟩, .slice none 0 0] 26) := by rw [hw0]; exact heap_new1 _ _
  have HW0 := Lib.hid hw0.symm
  have HR := Lib.hid ((hr.below hb0).more hb0.size)
  have hu26 := Tryz.underlying26
  clear hr hk hbb hw0
  go_enter Tryz.func134, Tryz.ntmps134
  go_wp2_with (first
    | (go_at_call 41; rw [HW0.out]; refine (flat_flat vs v _ HR.out HK5.out hn).mono ?_; rintro e w1 ⟨v1, rfl, hR1, hb1⟩; have k1 := (hb1.block _ (heap_lt k0)).trans k0; have HR1 := Lib.hid hR1; clear hR1)
    | (go_at_call 221; refine (first_clean vs v1 _ HR1.out HKF.out hn).mono ?_; rintro e w2 ⟨rfl, hb2⟩; have k2 := (hb2.block _ (heap_lt k1)).trans k1; have pb2 := hb0.trans ((hb1.trans (hb2.mono hb1.size)).mono hb0.size)))
  obtain ⟨w3, hw3⟩ : ∃ w3 : World, w3 = w2.alloc (.cells #[.int .i64 0, .int .i64 0, .int .i64 0, .string ⟨#[]⟩, .slice none 0 0] 26) := ⟨_, rfl⟩
  have hb23 : Below w2.heap.size w2 w3 := by rw [hw3]; exact (Below.refl _ _).alloc (Nat.le_refl _) _
  rw [← hw3]
  have k3 := (hb23.block _ (heap_lt k2)).trans k2
  have pb3 := below_next pb2 pb2.size hb23
  obtain ⟨A, c, rfl, hc1, hc2, hc3⟩ := ((HR1.out.below hb2).more hb2.size).below hb23
  rw [List.length_map] at hc1 hc3 ⊢
  have HC := Lib.hid hc3
  have hg3 := hb23.size
  have HWW := Lib.hid hw3
  clear hc2 hc3 k0 k1 k2 hw3
  go_loop [7, 8, 9] (fun t a i => ∃ k : Nat, k ≤ vs.length ∧ t = .int .i64 (trues (vs.take k) : Nat) ∧ a = .int .i64 k ∧ i = .int .i64 k) (fun _ _ i => vs.length - (intOf i).toNat)
  case atStart => exact ⟨0, Nat.zero_le _, rfl, rfl, rfl⟩
  case round =>
    obtain ⟨k, hk1, rfl, rfl, rfl⟩ := hrel
    have htl := trues_le vs k
    by_cases hlt : k < vs.length
    · obtain ⟨g, o, rfl, hg, hcell⟩ := HC.out (by omega)
      obtain ⟨x, hxk⟩ : ∃ x, vs[k]? = some x := ⟨_, List.getElem?_eq_getElem hlt⟩
      have hx : (vs.map FV.list)[k]? = some (FV.list x) := by rw [List.getElem?_map, hxk]; rfl
      have q0 := hcell k _ hx 0 _ rfl
      have q1 := hcell k _ hx 1 _ rfl
      simp only [Nat.add_zero] at q0
      have HTT := Lib.hid (trues_take vs k x hxk)
      have HL := Lib.hid hlt
      have hkx := HK.out x (List.mem_of_getElem? hxk)
      clear hx hxk hcell hlt
      by_cases hz : x.num = 0
      · have HT : Hid (trues (vs.take (k + 1)) = trues (vs.take k)) := by rw [Hid, HTT.out, if_neg (by simpa using hz)]; rfl
        rcases hkx with h | h
        · rw [h] at q0
          clear h
          go_wp2
          have hlt := HL.out
          go_round
          case rel => exact ⟨k + 1, by omega, by rw [HT.out], by go_num, by go_num⟩
          case measure => simp [intOf]; omega
        · rw [h] at q0
          clear h
          go_wp2
          have hlt := HL.out
          go_round
          case rel => exact ⟨k + 1, by omega, by rw [HT.out], by go_num, by go_num⟩
          case measure => simp [intOf]; omega
      · have HT : Hid (trues (vs.take (k + 1)) = trues (vs.take k) + 1) := by rw [Hid, HTT.out, if_pos hz]
        rcases hkx with h | h
        · rw [h] at q0
          clear h
          go_wp2
          have hlt := HL.out
          go_round
          case rel => exact ⟨k + 1, by omega, by rw [HT.out]; go_num, by go_num, by go_num⟩
          case measure => simp [intOf]; omega
        · rw [h] at q0
          clear h
          go_wp2
          have hlt := HL.out
          go_round
          case rel => exact ⟨k + 1, by omega, by rw [HT.out]; go_num, by go_num, by go_num⟩
          case measure => simp [intOf]; omega
    · obtain rfl : k = vs.length := by omega
      rw [List.take_length] at htl ⊢
      have hp1 : ((trues vs : Int) % 2 == 1) = b := by
        rw [HBB.out]
        by_cases h : trues vs % 2 = 1
        · have h2 : (trues vs : Int) % 2 = 1 := by omega
          simp [h, h2]
        · have h2 : (trues vs : Int) % 2 = 0 := by omega
          simp [h, h2]
      have hp2 : ((trues vs : Int).tmod 2 == 1) = b := by rw [Int.tmod_eq_emod_of_nonneg (by omega)]; exact hp1
      have h0' : ¬ (vs.length : Int) = 0 := by omega
      go_wp2_with (go_at_call 38; refine (bool_any b _).mono ?_; rintro e w4 ⟨rfl, hb4⟩; obtain ⟨c4, f4, z4, k4⟩ := box_cells k3 hb4)
      refine bodyPost_ret (v := .agg #[.int .i64 3, .int .i64 (bv b).num, .int .i64 0, .string ⟨#[]⟩, .slice none 0 0]) (by simp [results, Tryz.results134, go_sem, c4]) rfl ⟨rfl, ?_⟩
      have pb4 := below_next pb3 pb3.size hb4
      clear c4 f4
      (repeat refine below_set0 ?_ _ _)
      exact pb4

set_option maxRecDepth 100000 in
set_option maxHeartbeats 2000000 in
theorem fitsChoices_Xor_nil (A : Option Addr) (c : Nat) (w : World) :
    Calls Tryz.prog 80 #[.string ⟨#[88, 79, 82]⟩, .slice A 0 c] w fun e w' => e = .returned (.tuple #[.bool false, .bool true]) ∧ Below w.heap.size w w' := by
  go_enter Tryz.func80, Tryz.ntmps80
  go_wp2
  go_ret2
  exact ⟨rfl, (Below.refl _ _).alloc (Nat.le_refl _) _⟩

set_option maxRecDepth 100000 in
set_option maxHeartbeats 2000000 in
theorem callLogic_Xor (vs : List FV) (v : Value) (w : World) (hr : Row w w.heap.size 5 v (vs.map FV.list)) (hk : ∀ x ∈ vs, x.kind = 1 ∨ x.kind = 3) (h0 : 0 < vs.length) (hn : vs.length ≤ 1000000) :
    Calls Tryz.prog 60 #[.string ⟨#[88, 79, 82]⟩, v] w fun e w' => e = .returned (.tuple #[.agg #[.int .i64 3, .int .i64 (bv (decide (trues vs % 2 = 1))).num, .int .i64 0, .string ⟨#[]⟩, .slice none 0 0], .bool true]) ∧ Below w.heap.size w w' := by
  obtain ⟨q, hq⟩ : ∃ q, q = (bv (decide (trues vs % 2 = 1))).num := ⟨_, rfl⟩
  have HP : Hid (∀ W, Below w.heap.size w W → Calls Tryz.prog 134 #[.string ⟨#[88, 79, 82]⟩, v] W fun e w' => e = .returned (.agg #[.int .i64 3, .int .i64 q, .int .i64 0, .string ⟨#[]⟩, .slice none 0 0]) ∧ Below W.heap.size W w') := by
    rw [hq]; exact fun W hW => together_Xor vs v W ((hr.below hW).more hW.size) hk h0 hn
  rw [← hq]
  clear hr hk hq
  go_enter Tryz.func60, Tryz.ntmps60
  go_wp2_with (go_at_call 134; refine (HP.out _ ((Below.refl _ _).alloc (Nat.le_refl _) _)).mono ?_; rintro e w1 ⟨rfl, hb1⟩; obtain ⟨c1, f1, z1, k1⟩ := box_cells (heap_new1 _ _) hb1)
  refine bodyPost_ret (v := .tuple #[.agg #[.int .i64 3, .int .i64 q, .int .i64 0, .string ⟨#[]⟩, .slice none 0 0], .bool true]) (by simp [results, Tryz.results60, go_sem, c1]) rfl ⟨rfl, ?_⟩
  have pb := below_one hb1
  clear c1 f1
  (repeat refine below_set0 ?_ _ _)
  exact pb

theorem fits_Xor (vs : List FV) (v : Value) (w : World) (hr : Row w w.heap.size 5 v (vs.map FV.list)) (hk : ∀ x ∈ vs, x.kind = 1 ∨ x.kind = 3 ∨ x.kind = 6) (hn : vs.length ≤ 30) (B : Bool) (hB : (decide (0 < vs.length) && vs.all logB) = B) :
    Calls Tryz.prog 54 #[.string ⟨#[88, 79, 82]⟩, v] w fun e w' => e = .returned (.bool B) ∧ Below w.heap.size w w' := by
  obtain ⟨A, c, hv⟩ : ∃ A c, v = .slice A vs.length c := by
    obtain ⟨A, c, h, _⟩ := hr
    exact ⟨A, c, by rw [List.length_map] at h; exact h⟩
  refine fits_Choices _ v w B (fun W hW => fitsNumbers_Xor vs v W ((hr.below hW).more hW.size) fun W' hR => (every_numeric vs v W' hR (by omega) fun x hx => by have := hk x hx; omega).mono fun e w' ⟨he, hb⟩ => ⟨⟨_, he⟩, hb⟩)
    (fun W _ => by rw [hv]; exact fitsTexts_Xor _ _ _ W) fun W hW => ?_
  rcases Nat.eq_zero_or_pos vs.length with h0 | h0
  · have e : B = false := by rw [← hB]; simp [h0]
    rw [e, hv, h0]
    exact fitsChoices_Xor_nil A c W
  · have e : B = vs.all logB := by rw [← hB]; simp [h0]
    rw [e]
    exact fitsChoices_Xor vs v W ((hr.below hW).more hW.size) hk h0 hn

/-- What XOR of these is. -/
def rXor (vs : List FV) : FV := if 0 < vs.length ∧ ∀ x ∈ vs, x.kind ≠ 6 then bv (decide (trues vs % 2 = 1)) else ⟨6, 0, 0, ⟨#[]⟩⟩

theorem call_Xor (vs : List FV) (v : Value) (w : World) (hr : Row w w.heap.size 5 v (vs.map FV.list)) (hk : ∀ x ∈ vs, x.kind = 1 ∨ x.kind = 3 ∨ x.kind = 6) (hn : vs.length ≤ 30) :
    Calls Tryz.prog 23 #[.string ⟨#[88, 79, 82]⟩, v] w fun e w' => e = .returned (.agg #[.int .i64 (rXor vs).kind, .int .i64 (rXor vs).num, .int .i64 (rXor vs).den, .string (rXor vs).text, .slice none 0 0]) ∧ Below w.heap.size w w' := by
  refine call_any _ v w _ _ _ _ _ _ _ fun W0 hW0 => ?_
  have hr0 := (hr.below hW0).more hW0.size
  by_cases h : 0 < vs.length ∧ ∀ x ∈ vs, x.kind ≠ 6
  · have e : rXor vs = bv (decide (trues vs % 2 = 1)) := by unfold rXor; rw [if_pos h]
    rw [e]
    have hk' : ∀ x ∈ vs, x.kind = 1 ∨ x.kind = 3 := fun x hx => by have h1 := hk x hx; have h2 := h.2 x hx; omega
    have hB : (decide (0 < vs.length) && vs.all logB) = true := by
      have h1 : vs.all logB = true := by rw [List.all_eq_true]; intro x hx; simpa [logB] using hk' x hx
      rw [h1]; simpa using h.1
    refine callOver_CallLogic _ v W0 _ _ _ _ _ _ _ ?_ ?_ ?_ ?_ ?_ ?_ ?_
    · exact fun W hW => fits_Xor vs v W ((hr0.below hW).more hW.size) hk hn true hB
    · exact fun W _ => stat_Xor v W
    · exact fun W _ => criteria_Xor v W
    · exact fun W _ => lookup_Xor v W
    · exact fun W _ => callMath_Xor v W
    · exact fun W _ => callText_Xor v W
    · exact fun W hW => callLogic_Xor vs v W ((hr0.below hW).more hW.size) hk' h.1 (by omega)
  · have e : rXor vs = ⟨6, 0, 0, ⟨#[]⟩⟩ := by unfold rXor; rw [if_neg h]
    rw [e]
    have hB : (decide (0 < vs.length) && vs.all logB) = false := by
      rcases Nat.eq_zero_or_pos vs.length with h0 | h0
      · simp [h0]
      · have h1 : vs.all logB = false := by
          rw [List.all_eq_false]
          by_cases h6 : ∃ x ∈ vs, x.kind = 6
          · obtain ⟨x, hx, h6⟩ := h6
            exact ⟨x, hx, by simp [logB, h6]⟩
          · exact absurd ⟨h0, fun x hx h6' => h6 ⟨x, hx, h6'⟩⟩ h
        rw [h1]; simp
    exact callOver_no _ v W0 fun W hW => fits_Xor vs v W ((hr0.below hW).more hW.size) hk hn false hB

end Go.Proofs.YtededpnjijfieaaGreatDoor
