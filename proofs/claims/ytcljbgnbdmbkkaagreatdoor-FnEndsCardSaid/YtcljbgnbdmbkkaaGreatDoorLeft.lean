/-
The package's LEFT and RIGHT.
-/
import Derived.Test.YtcljbgnbdmbkkaaGreatDoorRunes
import Derived.Test.YtcljbgnbdmbkkaaGreatDoorValue
import Derived.Test.YtcljbgnbdmbkkaaGreatDoorTwos
import Derived.Test.YtcljbgnbdmbkkaaGreatDoorMin
import Derived.Test.YtcljbgnbdmbkkaaGreatDoorReadO
namespace Go.Proofs.YtcljbgnbdmbkkaaGreatDoor
open Go.RowKit Go.Fl

theorem extract_all (s : ByteArray) : s.extract 0 s.size = ⟨s.data.toList.toArray⟩ := by
  have hll : s.data.toList.length = s.size := Array.length_toList
  rw [← extract_list s 0 s.size, ← hll, List.take_length, List.drop_zero]

set_option maxRecDepth 100000 in
set_option maxHeartbeats 2000000 in
theorem lr_one_LEFT (s : ByteArray) (l : Nat) (es : List (Nat × Value)) (f : Option Addr) (w : World) (ha : asciiB s = true) (hs : s.size ≤ 1000) (hI : IList w l [⟨2, 0, 0, s⟩] es) :
    Calls Tryz.prog 82 #[.pointer f, .string ⟨#[76, 69, 70, 84]⟩, .pointer (some ⟨l, 0, none⟩)] w
      fun e w' => e = .returned (.agg #[.string ⟨#[]⟩, .float .f64 0, .string (s.extract 0 (min 1 s.size)), .slice none 0 0, .slice none 0 0, .bool false, .string ⟨#[]⟩, .int .u8 2, .pointer none, .pointer none]) ∧ Below w.heap.size w w' := by
  have hu80 := Tryz.underlying74
  have hta := assertArg
  obtain ⟨e, g, hes, hg, hnx, hp, hcell⟩ := hI.one
  obtain rfl : g = ⟨0, s, false, ⟨#[]⟩, 2⟩ := hg.2.1 rfl
  have HC : Hid (∀ W, Below w.heap.size w W → (∀ j, W.cell? ⟨e, j, none⟩ = (#[Value.pointer (some ⟨l, 0, none⟩), .pointer (some ⟨l, 0, none⟩), .pointer (some ⟨l, 0, none⟩), .iface 74 (.agg #[.string ⟨#[]⟩, .float .f64 0, .string s, .slice none 0 0, .slice none 0 0, .bool false, .string ⟨#[]⟩, .int .u8 2, .pointer none, .pointer none])] : Array Value)[j]?) ∧ e < W.heap.size) := fun W hW => by
    have hz := heap_lt hcell
    obtain ⟨k1, k2, k3⟩ := row_facts ((hW.block e hz).trans hcell)
    exact ⟨k1, k3⟩
  have HR : Hid (∀ W, Below w.heap.size w W → Ring W l es) := fun W hW => hI.ring.below hW
  have HN := Lib.hid hnx
  have hlen : es.length = 1 := hI.len
  have HLen := Lib.hid hlen
  have HA := Lib.hid ha
  have HS : Hid (s.size ≤ 1000) := hs
  have HLT := Lib.hid (plain_lt ha)
  have hll : Hid (s.data.toList.length = s.size) := Array.length_toList
  have pb := Below.refl w.heap.size w
  obtain ⟨ce, ze⟩ := HC.out w pb
  clear hI hg hnx hp hcell hes hlen ha hs
  go_enter Tryz.func82, Tryz.ntmps82
  go_wp2_with (first
    | (go_at_call 72; refine (len_any _ (HR.out _ (pb.alloc pb.size _))).mono ?_; rintro e w1 ⟨rfl, rfl⟩; rw [HLen.out])
    | (go_at_call 65; refine (front_some _ (HR.out _ (pb.alloc pb.size _)) (by rw [HLen.out]; omega)).mono ?_; rintro e w1 ⟨rfl, rfl⟩; rw [HN.out])
    | (go_at_call 80; refine (value_str _ _ _ _ _).mono ?_; rintro e w1 ⟨rfl, hb1⟩))
  obtain ⟨W', c, hrun, hc, hbr, hz', hcl⟩ := runes_conv w1 s HA.out (by have := HS.out; omega)
  rw [hrun]
  have pb1 := below_one hb1
  have pb2 := below_next pb1 pb1.size hbr
  obtain ⟨c1, f1, z1, k1⟩ := box_cells (heap_new1 w _) hb1
  obtain ⟨c2, f2, z2, k2⟩ := box_cells k1 hbr
  have HCL := Lib.hid hcl
  have hcz : (s.size : Int) ≤ (c : Int) := by omega
  clear hcl hrun c1 f1 ce
  by_cases h1 : 1 < s.size
  · have h1' : (1 : Int) < (s.size : Int) := by omega
    have h1c : (1 : Int) ≤ (c : Int) := by omega
    have HE : Hid (s.extract 0 (min 1 s.size) = s.extract 0 1) := by rw [Hid]; congr 1 <;> omega
    have H1 : Hid (1 < s.size) := h1
    go_wp2_with (go_at_call 72; refine (len_any _ (HR.out _ pb2)).mono ?_; rintro e w3 ⟨rfl, rfl⟩; rw [HLen.out])
    rw [conv_runes W' w1.heap.size 0 1 c (s.data.toList.take 1) (by rw [List.length_take, hll.out]; have := H1.out; omega) (fun b hb => HLT.out b (List.mem_of_mem_take hb)) (by intro j b hj; rw [Nat.zero_add]; rw [List.getElem?_take] at hj; split at hj; exact HCL.out j b hj; simp at hj)]
    go_wp2_with (go_at_call 78; refine (newStr_any _ _).mono ?_; rintro e w4 ⟨rfl, hb4⟩; obtain ⟨c4, f4, z4, k4⟩ := box_cells k2 hb4; have pb4 := below_next pb2 pb2.size hb4; clear c2 f2)
    rw [HE.out, ← extract_list s 0 1, List.drop_zero]
    refine bodyPost_ret (v := .agg #[.string ⟨#[]⟩, .float .f64 0, .string ⟨(s.data.toList.take 1).toArray⟩, .slice none 0 0, .slice none 0 0, .bool false, .string ⟨#[]⟩, .int .u8 2, .pointer none, .pointer none]) (by simp [results, Tryz.results82, go_sem, c4]) rfl ⟨rfl, ?_⟩
    clear c4 f4
    (repeat refine below_set0 ?_ _ _)
    exact pb4
  · have h1' : ¬ (1 : Int) < (s.size : Int) := by omega
    have HE : Hid (s.extract 0 (min 1 s.size) = s.extract 0 s.size) := by rw [Hid]; congr 1 <;> omega
    go_wp2_with (go_at_call 72; refine (len_any _ (HR.out _ pb2)).mono ?_; rintro e w3 ⟨rfl, rfl⟩; rw [HLen.out])
    rw [conv_runes W' w1.heap.size 0 s.size c (s.data.toList) hll.out HLT.out (by intro j b hj; rw [Nat.zero_add]; exact HCL.out j b hj)]
    go_wp2_with (go_at_call 78; refine (newStr_any _ _).mono ?_; rintro e w4 ⟨rfl, hb4⟩; obtain ⟨c4, f4, z4, k4⟩ := box_cells k2 hb4; have pb4 := below_next pb2 pb2.size hb4; clear c2 f2)
    rw [HE.out, extract_all]
    refine bodyPost_ret (v := .agg #[.string ⟨#[]⟩, .float .f64 0, .string ⟨s.data.toList.toArray⟩, .slice none 0 0, .slice none 0 0, .bool false, .string ⟨#[]⟩, .int .u8 2, .pointer none, .pointer none]) (by simp [results, Tryz.results82, go_sem, c4]) rfl ⟨rfl, ?_⟩
    clear c4 f4
    (repeat refine below_set0 ?_ _ _)
    exact pb4

set_option maxRecDepth 100000 in
set_option maxHeartbeats 2000000 in
theorem lr_one_RIGHT (s : ByteArray) (l : Nat) (es : List (Nat × Value)) (f : Option Addr) (w : World) (ha : asciiB s = true) (hs : s.size ≤ 1000) (hI : IList w l [⟨2, 0, 0, s⟩] es) :
    Calls Tryz.prog 82 #[.pointer f, .string ⟨#[82, 73, 71, 72, 84]⟩, .pointer (some ⟨l, 0, none⟩)] w
      fun e w' => e = .returned (.agg #[.string ⟨#[]⟩, .float .f64 0, .string (s.extract (s.size - min 1 s.size) s.size), .slice none 0 0, .slice none 0 0, .bool false, .string ⟨#[]⟩, .int .u8 2, .pointer none, .pointer none]) ∧ Below w.heap.size w w' := by
  have hu80 := Tryz.underlying74
  have hta := assertArg
  obtain ⟨e, g, hes, hg, hnx, hp, hcell⟩ := hI.one
  obtain rfl : g = ⟨0, s, false, ⟨#[]⟩, 2⟩ := hg.2.1 rfl
  have HC : Hid (∀ W, Below w.heap.size w W → (∀ j, W.cell? ⟨e, j, none⟩ = (#[Value.pointer (some ⟨l, 0, none⟩), .pointer (some ⟨l, 0, none⟩), .pointer (some ⟨l, 0, none⟩), .iface 74 (.agg #[.string ⟨#[]⟩, .float .f64 0, .string s, .slice none 0 0, .slice none 0 0, .bool false, .string ⟨#[]⟩, .int .u8 2, .pointer none, .pointer none])] : Array Value)[j]?) ∧ e < W.heap.size) := fun W hW => by
    have hz := heap_lt hcell
    obtain ⟨k1, k2, k3⟩ := row_facts ((hW.block e hz).trans hcell)
    exact ⟨k1, k3⟩
  have HR : Hid (∀ W, Below w.heap.size w W → Ring W l es) := fun W hW => hI.ring.below hW
  have HN := Lib.hid hnx
  have hlen : es.length = 1 := hI.len
  have HLen := Lib.hid hlen
  have HA := Lib.hid ha
  have HS : Hid (s.size ≤ 1000) := hs
  have HLT := Lib.hid (plain_lt ha)
  have hll : Hid (s.data.toList.length = s.size) := Array.length_toList
  have pb := Below.refl w.heap.size w
  obtain ⟨ce, ze⟩ := HC.out w pb
  clear hI hg hnx hp hcell hes hlen ha hs
  go_enter Tryz.func82, Tryz.ntmps82
  go_wp2_with (first
    | (go_at_call 72; refine (len_any _ (HR.out _ (pb.alloc pb.size _))).mono ?_; rintro e w1 ⟨rfl, rfl⟩; rw [HLen.out])
    | (go_at_call 65; refine (front_some _ (HR.out _ (pb.alloc pb.size _)) (by rw [HLen.out]; omega)).mono ?_; rintro e w1 ⟨rfl, rfl⟩; rw [HN.out])
    | (go_at_call 80; refine (value_str _ _ _ _ _).mono ?_; rintro e w1 ⟨rfl, hb1⟩))
  obtain ⟨W', c, hrun, hc, hbr, hz', hcl⟩ := runes_conv w1 s HA.out (by have := HS.out; omega)
  rw [hrun]
  have pb1 := below_one hb1
  have pb2 := below_next pb1 pb1.size hbr
  obtain ⟨c1, f1, z1, k1⟩ := box_cells (heap_new1 w _) hb1
  obtain ⟨c2, f2, z2, k2⟩ := box_cells k1 hbr
  have HCL := Lib.hid hcl
  have hcz : (s.size : Int) ≤ (c : Int) := by omega
  clear hcl hrun c1 f1 ce
  by_cases h1 : 1 < s.size
  · have h1' : (1 : Int) < (s.size : Int) := by omega
    have h1c : (1 : Int) ≤ (c : Int) := by omega
    have HE : Hid (s.extract (s.size - min 1 s.size) s.size = s.extract (s.size - 1) s.size) := by rw [Hid]; congr 1 <;> omega
    have H1 : Hid (1 < s.size) := h1
    obtain ⟨m, hm⟩ : ∃ m, m = s.size - 1 := ⟨_, rfl⟩
    have hw : wrap64 ((s.size : Int) - 1) = (m : Int) := by have := HS.out; unfold wrap64; omega
    have m1 : (m : Int) ≤ (s.size : Int) := by omega
    have m2 : (m : Int) ≤ (c : Int) := by omega
    have m3 : (m : Int) ≠ (c : Int) := by omega
    have m4 : m ≠ c := by omega
    have m5 : ¬ c ≤ m := by omega
    have HM : Hid (m = s.size - 1 ∧ s.size - m = 1) := ⟨hm, by omega⟩
    clear hm
    go_wp2_with (go_at_call 72; refine (len_any _ (HR.out _ pb2)).mono ?_; rintro e w3 ⟨rfl, rfl⟩; rw [HLen.out])
    rw [show s.size - m = 1 from HM.out.2, conv_runes W' w1.heap.size m 1 (c - m) (s.data.toList.drop (s.size - 1)) (by rw [List.length_drop, hll.out, ← HM.out.1]; exact HM.out.2) (fun b hb => HLT.out b (List.mem_of_mem_drop hb)) (by intro j b hj; rw [List.getElem?_drop] at hj; rw [HM.out.1]; exact HCL.out _ b hj)]
    go_wp2_with (go_at_call 78; refine (newStr_any _ _).mono ?_; rintro e w4 ⟨rfl, hb4⟩; obtain ⟨c4, f4, z4, k4⟩ := box_cells k2 hb4; have pb4 := below_next pb2 pb2.size hb4; clear c2 f2)
    rw [HE.out, ← extract_list s (s.size - 1) s.size, ← hll.out, List.take_length]
    refine bodyPost_ret (v := .agg #[.string ⟨#[]⟩, .float .f64 0, .string ⟨(s.data.toList.drop (s.data.toList.length - 1)).toArray⟩, .slice none 0 0, .slice none 0 0, .bool false, .string ⟨#[]⟩, .int .u8 2, .pointer none, .pointer none]) (by simp [results, Tryz.results82, go_sem, c4]) rfl ⟨rfl, ?_⟩
    clear c4 f4
    (repeat refine below_set0 ?_ _ _)
    exact pb4
  · have h1' : ¬ (1 : Int) < (s.size : Int) := by omega
    have HE : Hid (s.extract (s.size - min 1 s.size) s.size = s.extract 0 s.size) := by rw [Hid]; congr 1 <;> omega
    go_wp2_with (go_at_call 72; refine (len_any _ (HR.out _ pb2)).mono ?_; rintro e w3 ⟨rfl, rfl⟩; rw [HLen.out])
    rw [conv_runes W' w1.heap.size 0 s.size c (s.data.toList) hll.out HLT.out (by intro j b hj; rw [Nat.zero_add]; exact HCL.out j b hj)]
    go_wp2_with (go_at_call 78; refine (newStr_any _ _).mono ?_; rintro e w4 ⟨rfl, hb4⟩; obtain ⟨c4, f4, z4, k4⟩ := box_cells k2 hb4; have pb4 := below_next pb2 pb2.size hb4; clear c2 f2)
    rw [HE.out, extract_all]
    refine bodyPost_ret (v := .agg #[.string ⟨#[]⟩, .float .f64 0, .string ⟨s.data.toList.toArray⟩, .slice none 0 0, .slice none 0 0, .bool false, .string ⟨#[]⟩, .int .u8 2, .pointer none, .pointer none]) (by simp [results, Tryz.results82, go_sem, c4]) rfl ⟨rfl, ?_⟩
    clear c4 f4
    (repeat refine below_set0 ?_ _ _)
    exact pb4

set_option maxRecDepth 100000 in
set_option maxHeartbeats 4000000 in
theorem lr_two (s : ByteArray) (n : Int) (l : Nat) (es : List (Nat × Value)) (f : Option Addr) (w : World) (ha : asciiB s = true) (hs : s.size ≤ 1000) (h0 : 0 ≤ n) (h1 : n ≤ 99999999999) (hI : IList w l [⟨2, 0, 0, s⟩, ⟨1, n, 1, ⟨#[]⟩⟩] es) :
    Calls Tryz.prog 82 #[.pointer f, .string ⟨#[76, 69, 70, 84]⟩, .pointer (some ⟨l, 0, none⟩)] w
      fun e w' => e = .returned (.agg #[.string ⟨#[]⟩, .float .f64 0, .string (s.extract 0 (min n.toNat s.size)), .slice none 0 0, .slice none 0 0, .bool false, .string ⟨#[]⟩, .int .u8 2, .pointer none, .pointer none]) ∧ Below w.heap.size w w' := by
  have hu80 := Tryz.underlying74
  have hta := assertArg
  obtain ⟨e, g, hg, he, hcell⟩ := hI.at_ 0 _ rfl
  obtain ⟨e', g', hg', he', hcell'⟩ := hI.at_ 1 _ rfl
  obtain rfl : g = ⟨0, s, false, ⟨#[]⟩, 2⟩ := hg.2.1 rfl
  obtain ⟨y, hy, rfl⟩ := hg'.1 rfl
  have hy' : Sx y (16 * n) := by rwa [whole_six] at hy
  have hlen : es.length = 2 := hI.len
  have HN : Hid (nx l es 0 = e) := by rw [Hid]; unfold nx; rw [he]
  have HP : Hid (pv l es es.length = e') := by rw [Hid, hlen]; show nx l es 1 = e'; unfold nx; rw [he']
  have HC : Hid (∀ W, Below w.heap.size w W → (∀ j, W.cell? ⟨e, j, none⟩ = (#[Value.pointer (some ⟨nx l es 1, 0, none⟩), .pointer (some ⟨l, 0, none⟩), .pointer (some ⟨l, 0, none⟩), .iface 74 (.agg #[.string ⟨#[]⟩, .float .f64 0, .string s, .slice none 0 0, .slice none 0 0, .bool false, .string ⟨#[]⟩, .int .u8 2, .pointer none, .pointer none])] : Array Value)[j]?) ∧ e < W.heap.size) := fun W hW => by
    have hz := heap_lt hcell
    obtain ⟨k1, k2, k3⟩ := row_facts ((hW.block e hz).trans hcell)
    exact ⟨k1, k3⟩
  have HC' : Hid (∀ W, Below w.heap.size w W → (∀ j, W.cell? ⟨e', j, none⟩ = (#[Value.pointer (some ⟨nx l es 2, 0, none⟩), .pointer (some ⟨pv l es 1, 0, none⟩), .pointer (some ⟨l, 0, none⟩), .iface 74 (.agg #[.string ⟨#[]⟩, .float .f64 y, .string ⟨#[]⟩, .slice none 0 0, .slice none 0 0, .bool false, .string ⟨#[]⟩, .int .u8 1, .pointer none, .pointer none])] : Array Value)[j]?) ∧ e' < W.heap.size) := fun W hW => by
    have hz := heap_lt hcell'
    obtain ⟨k1, k2, k3⟩ := row_facts ((hW.block e' hz).trans hcell')
    exact ⟨k1, k3⟩
  have HR : Hid (∀ W, Below w.heap.size w W → Ring W l es) := fun W hW => hI.ring.below hW
  have HLen := Lib.hid hlen
  have HA := Lib.hid ha
  have HS : Hid (s.size ≤ 1000) := hs
  have HLT := Lib.hid (plain_lt ha)
  have HY := Lib.hid hy'
  have hll : Hid (s.data.toList.length = s.size) := Array.length_toList
  have pb := Below.refl w.heap.size w
  obtain ⟨ce, ze⟩ := HC.out w pb
  have HLTZ : Hid (∀ z, Sx z (16 * n) → (FloatKind.f64.format.order z 0 == some .lt) = false) := fun z hz => by
    have := Sx.lt_ hz Sx.zero
    exact this.trans (by simp; omega)
  obtain ⟨K, hK⟩ : ∃ K, K = min n.toNat s.size := ⟨_, rfl⟩
  rw [← hK]
  have hKs : K ≤ s.size := by omega
  have d1 := floatOfInt_sx (s.size : Int) (by omega) (by omega)
  have HMT : Hid (min (16 * n) (16 * (s.size : Int)) < 9007199254740992 ∧ -9007199254740992 < min (16 * n) (16 * (s.size : Int)) ∧ (min (16 * n) (16 * (s.size : Int))).tdiv 16 = (K : Int)) := by
    have e : min (16 * n) (16 * (s.size : Int)) = 16 * (K : Int) := by omega
    refine ⟨by omega, by omega, ?_⟩
    rw [e]
    exact Int.mul_tdiv_cancel_left _ (by omega)
  have HSZ : Hid (Sx (sx (16 * (s.size : Int))) (16 * (s.size : Int))) := Sx.sx (by omega) (by omega)
  clear hI hg hg' he he' hcell hcell' hlen ha hs hy hy' h0 h1 hK
  go_enter Tryz.func82, Tryz.ntmps82
  go_wp2_with (first
    | (go_at_call 72; refine (len_any _ (HR.out _ (pb.alloc pb.size _))).mono ?_; rintro e w1 ⟨rfl, rfl⟩; rw [HLen.out])
    | (go_at_call 65; refine (front_some _ (HR.out _ (pb.alloc pb.size _)) (by rw [HLen.out]; omega)).mono ?_; rintro e w1 ⟨rfl, rfl⟩; rw [HN.out])
    | (go_at_call 80; refine (value_str _ _ _ _ _).mono ?_; rintro e w1 ⟨rfl, hb1⟩))
  obtain ⟨W', c, hrun, hc, hbr, hz', hcl⟩ := runes_conv w1 s HA.out (by have := HS.out; omega)
  rw [hrun]
  have pb1 := below_one hb1
  have pb2 := below_next pb1 pb1.size hbr
  obtain ⟨c1, f1, z1, k1⟩ := box_cells (heap_new1 w _) hb1
  obtain ⟨c2, f2, z2, k2⟩ := box_cells k1 hbr
  have HCL := Lib.hid hcl
  have hcz : (s.size : Int) ≤ (c : Int) := by omega
  clear hcl hrun c1 f1 ce ze
  go_wp2_with (first
    | (go_at_call 72; refine (len_any _ (HR.out _ pb2)).mono ?_; rintro e w3 ⟨rfl, rfl⟩; rw [HLen.out])
    | (go_at_call 75; refine (back_some _ (HR.out _ pb2) (by rw [HLen.out]; omega)).mono ?_; rintro e w3 ⟨rfl, rfl⟩; rw [HP.out]; obtain ⟨ce', ze'⟩ := HC'.out _ pb2)
    | (go_at_call 67; refine (toNumber_num y (16 * n) _ _ _ _ HY.out).mono ?_; rintro e w3 ⟨z, hz, rfl, hb3⟩; obtain ⟨c3, f3, z3, k3⟩ := box_cells k2 hb3; have pb3 := below_next pb2 pb2.size hb3; have hlt := HLTZ.out z hz; have HZ := Lib.hid hz; clear hz c2 f2 ce' ze'))
  refine (min_any z (sx (16 * (s.size : Int))) (16 * n) (16 * (s.size : Int)) _ HZ.out HSZ.out).mono ?_
  rintro e w4 ⟨⟨u, hu, rfl⟩, hb4⟩
  have hcv := conv_sx hu HMT.out.1 HMT.out.2.1
  rw [HMT.out.2.2] at hcv
  obtain ⟨c4, f4, z4, k4⟩ := box_later k3 hb4
  have pb4 := below_box pb3 pb3.size hb4
  have HCW : Hid (∀ j b, s.data.toList[j]? = some b → w4.cell? ⟨w1.heap.size, j, none⟩ = some (.int .i32 (b.toNat : Int))) := fun j b hj =>
    ((below_box hb3 hb3.size hb4).cell (p := ⟨w1.heap.size, j, none⟩) hz').trans (HCL.out j b hj)
  have hKc : (K : Int) ≤ (c : Int) := by omega
  clear hu c3 f3 d1
  by_cases h1 : K < s.size
  · have h1' : (K : Int) < (s.size : Int) := by omega
    have h0' : (0 : Int) ≤ (K : Int) := by omega
    have H1 : Hid (K < s.size) := h1
    clear h1
    go_wp2
    rw [conv_runes w4 w1.heap.size 0 K c (s.data.toList.take K) (by rw [List.length_take, hll.out]; have := H1.out; omega) (fun b hb => HLT.out b (List.mem_of_mem_take hb)) (by intro j b hj; rw [Nat.zero_add]; rw [List.getElem?_take] at hj; split at hj; exact HCW.out j b hj; simp at hj)]
    go_wp2_with (go_at_call 78; refine (newStr_any _ _).mono ?_; rintro e w5 ⟨rfl, hb5⟩; obtain ⟨c5, f5, z5, k5⟩ := box_cells k4 hb5; have pb5 := below_next pb4 pb4.size hb5; clear c4 f4)
    rw [← extract_list s 0 K, List.drop_zero]
    refine bodyPost_ret (v := .agg #[.string ⟨#[]⟩, .float .f64 0, .string ⟨(s.data.toList.take K).toArray⟩, .slice none 0 0, .slice none 0 0, .bool false, .string ⟨#[]⟩, .int .u8 2, .pointer none, .pointer none]) (by simp [results, Tryz.results82, go_sem, c5]) rfl ⟨rfl, ?_⟩
    clear c5 f5
    (repeat refine below_set0 ?_ _ _)
    exact pb5
  · obtain rfl : K = s.size := by omega
    clear h1
    go_wp2
    rw [conv_runes w4 w1.heap.size 0 s.size c (s.data.toList) hll.out HLT.out (by intro j b hj; rw [Nat.zero_add]; exact HCW.out j b hj)]
    go_wp2_with (go_at_call 78; refine (newStr_any _ _).mono ?_; rintro e w5 ⟨rfl, hb5⟩; obtain ⟨c5, f5, z5, k5⟩ := box_cells k4 hb5; have pb5 := below_next pb4 pb4.size hb5; clear c4 f4)
    rw [extract_all]
    refine bodyPost_ret (v := .agg #[.string ⟨#[]⟩, .float .f64 0, .string ⟨s.data.toList.toArray⟩, .slice none 0 0, .slice none 0 0, .bool false, .string ⟨#[]⟩, .int .u8 2, .pointer none, .pointer none]) (by simp [results, Tryz.results82, go_sem, c5]) rfl ⟨rfl, ?_⟩
    clear c5 f5
    (repeat refine below_set0 ?_ _ _)
    exact pb5

set_option maxRecDepth 100000 in
set_option maxHeartbeats 4000000 in
theorem lr_neg (s : ByteArray) (n : Int) (l : Nat) (es : List (Nat × Value)) (f : Option Addr) (w : World) (ha : asciiB s = true) (hs : s.size ≤ 1000) (h0 : n < 0) (h1 : -99999999999 ≤ n) (hI : IList w l [⟨2, 0, 0, s⟩, ⟨1, n, 1, ⟨#[]⟩⟩] es) :
    Calls Tryz.prog 82 #[.pointer f, .string ⟨#[76, 69, 70, 84]⟩, .pointer (some ⟨l, 0, none⟩)] w
      fun e w' => e = .returned (.agg #[.string ⟨#[]⟩, .float .f64 0, .string errV, .slice none 0 0, .slice none 0 0, .bool false, .string errV, .int .u8 5, .pointer none, .pointer none]) ∧ Below w.heap.size w w' := by
  have hu80 := Tryz.underlying74
  have hta := assertArg
  obtain ⟨e, g, hg, he, hcell⟩ := hI.at_ 0 _ rfl
  obtain ⟨e', g', hg', he', hcell'⟩ := hI.at_ 1 _ rfl
  obtain rfl : g = ⟨0, s, false, ⟨#[]⟩, 2⟩ := hg.2.1 rfl
  obtain ⟨y, hy, rfl⟩ := hg'.1 rfl
  have hy' : Sx y (16 * n) := by rwa [whole_six] at hy
  have hlen : es.length = 2 := hI.len
  have HN : Hid (nx l es 0 = e) := by rw [Hid]; unfold nx; rw [he]
  have HP : Hid (pv l es es.length = e') := by rw [Hid, hlen]; show nx l es 1 = e'; unfold nx; rw [he']
  have HC : Hid (∀ W, Below w.heap.size w W → (∀ j, W.cell? ⟨e, j, none⟩ = (#[Value.pointer (some ⟨nx l es 1, 0, none⟩), .pointer (some ⟨l, 0, none⟩), .pointer (some ⟨l, 0, none⟩), .iface 74 (.agg #[.string ⟨#[]⟩, .float .f64 0, .string s, .slice none 0 0, .slice none 0 0, .bool false, .string ⟨#[]⟩, .int .u8 2, .pointer none, .pointer none])] : Array Value)[j]?) ∧ e < W.heap.size) := fun W hW => by
    have hz := heap_lt hcell
    obtain ⟨k1, k2, k3⟩ := row_facts ((hW.block e hz).trans hcell)
    exact ⟨k1, k3⟩
  have HC' : Hid (∀ W, Below w.heap.size w W → (∀ j, W.cell? ⟨e', j, none⟩ = (#[Value.pointer (some ⟨nx l es 2, 0, none⟩), .pointer (some ⟨pv l es 1, 0, none⟩), .pointer (some ⟨l, 0, none⟩), .iface 74 (.agg #[.string ⟨#[]⟩, .float .f64 y, .string ⟨#[]⟩, .slice none 0 0, .slice none 0 0, .bool false, .string ⟨#[]⟩, .int .u8 1, .pointer none, .pointer none])] : Array Value)[j]?) ∧ e' < W.heap.size) := fun W hW => by
    have hz := heap_lt hcell'
    obtain ⟨k1, k2, k3⟩ := row_facts ((hW.block e' hz).trans hcell')
    exact ⟨k1, k3⟩
  have HR : Hid (∀ W, Below w.heap.size w W → Ring W l es) := fun W hW => hI.ring.below hW
  have HLen := Lib.hid hlen
  have HA := Lib.hid ha
  have HS : Hid (s.size ≤ 1000) := hs
  have HLT := Lib.hid (plain_lt ha)
  have HY := Lib.hid hy'
  have hll : Hid (s.data.toList.length = s.size) := Array.length_toList
  have pb := Below.refl w.heap.size w
  obtain ⟨ce, ze⟩ := HC.out w pb
  have HLTZ : Hid (∀ z, Sx z (16 * n) → (FloatKind.f64.format.order z 0 == some .lt) = true) := fun z hz => by
    have := Sx.lt_ hz Sx.zero
    exact this.trans (by simp; omega)
  clear hI hg hg' he he' hcell hcell' hlen ha hs hy hy' h0 h1
  go_enter Tryz.func82, Tryz.ntmps82
  go_wp2_with (first
    | (go_at_call 72; refine (len_any _ (HR.out _ (pb.alloc pb.size _))).mono ?_; rintro e w1 ⟨rfl, rfl⟩; rw [HLen.out])
    | (go_at_call 65; refine (front_some _ (HR.out _ (pb.alloc pb.size _)) (by rw [HLen.out]; omega)).mono ?_; rintro e w1 ⟨rfl, rfl⟩; rw [HN.out])
    | (go_at_call 80; refine (value_str _ _ _ _ _).mono ?_; rintro e w1 ⟨rfl, hb1⟩))
  obtain ⟨W', c, hrun, hc, hbr, hz', hcl⟩ := runes_conv w1 s HA.out (by have := HS.out; omega)
  rw [hrun]
  have pb1 := below_one hb1
  have pb2 := below_next pb1 pb1.size hbr
  obtain ⟨c1, f1, z1, k1⟩ := box_cells (heap_new1 w _) hb1
  obtain ⟨c2, f2, z2, k2⟩ := box_cells k1 hbr
  have HCL := Lib.hid hcl
  have hcz : (s.size : Int) ≤ (c : Int) := by omega
  clear hcl hrun c1 f1 ce ze
  go_wp2_with (first
    | (go_at_call 72; refine (len_any _ (HR.out _ pb2)).mono ?_; rintro e w3 ⟨rfl, rfl⟩; rw [HLen.out])
    | (go_at_call 75; refine (back_some _ (HR.out _ pb2) (by rw [HLen.out]; omega)).mono ?_; rintro e w3 ⟨rfl, rfl⟩; rw [HP.out]; obtain ⟨ce', ze'⟩ := HC'.out _ pb2)
    | (go_at_call 67; refine (toNumber_num y (16 * n) _ _ _ _ HY.out).mono ?_; rintro e w3 ⟨z, hz, rfl, hb3⟩; obtain ⟨c3, f3, z3, k3⟩ := box_cells k2 hb3; have pb3 := below_next pb2 pb2.size hb3; have hlt := HLTZ.out z hz; have HZ := Lib.hid hz; clear hz c2 f2 ce' ze'))
  go_wp2_with (go_at_call 73; refine (newErr_any _ _ _).mono ?_; rintro e w4 ⟨rfl, hb4⟩; obtain ⟨c4, f4, z4, k4⟩ := box_later k3 hb4; have pb4 := below_box pb3 pb3.size hb4; clear c3 f3)
  refine bodyPost_ret (v := .agg #[.string ⟨#[]⟩, .float .f64 0, .string errV, .slice none 0 0, .slice none 0 0, .bool false, .string errV, .int .u8 5, .pointer none, .pointer none]) (by simp [results, Tryz.results82, go_sem, c4, errV]) rfl ⟨rfl, ?_⟩
  clear c4 f4
  (repeat refine below_set0 ?_ _ _)
  exact pb4

theorem IList.below {w w' : World} {l : Nat} {vs : List FV} {es : List (Nat × Value)} (h : IList w l vs es) (hb : Below w.heap.size w w') : IList w' l vs es := ⟨h.ring.below hb, h.len, h.vals⟩

set_option maxRecDepth 100000 in
set_option maxHeartbeats 1000000 in
theorem LEFT_one (s : ByteArray) (l : Nat) (es : List (Nat × Value)) (f : Option Addr) (w : World) (ha : asciiB s = true) (hs : s.size ≤ 1000) (hI : IList w l [⟨2, 0, 0, s⟩] es) :
    Calls Tryz.prog 53 #[.pointer f, .pointer (some ⟨l, 0, none⟩)] w
      fun e w' => e = .returned (.agg #[.string ⟨#[]⟩, .float .f64 0, .string (s.extract 0 (min 1 s.size)), .slice none 0 0, .slice none 0 0, .bool false, .string ⟨#[]⟩, .int .u8 2, .pointer none, .pointer none]) ∧ Below w.heap.size w w' := by
  have hu80 := Tryz.underlying74
  have HF : Hid (∀ W, Below w.heap.size w W → Calls Tryz.prog 82 #[.pointer f, .string ⟨#[76, 69, 70, 84]⟩, .pointer (some ⟨l, 0, none⟩)] W fun e w' => e = .returned (.agg #[.string ⟨#[]⟩, .float .f64 0, .string (s.extract 0 (min 1 s.size)), .slice none 0 0, .slice none 0 0, .bool false, .string ⟨#[]⟩, .int .u8 2, .pointer none, .pointer none]) ∧ Below W.heap.size W w') := fun W hW => lr_one_LEFT s l es f W ha hs (hI.below hW)
  clear hI
  go_enter Tryz.func53, Tryz.ntmps53
  go_wp2_with (go_at_call 82; refine (HF.out _ ((Below.refl _ _).alloc (Nat.le_refl _) _)).mono ?_; rintro e w1 ⟨rfl, hb1⟩; obtain ⟨c1, f1, z1, k1⟩ := box_cells (heap_new1 w _) hb1)
  refine bodyPost_ret (v := .agg #[.string ⟨#[]⟩, .float .f64 0, .string (s.extract 0 (min 1 s.size)), .slice none 0 0, .slice none 0 0, .bool false, .string ⟨#[]⟩, .int .u8 2, .pointer none, .pointer none]) (by simp [results, Tryz.results53, go_sem, c1]) rfl ⟨rfl, ?_⟩
  have pb := below_one hb1
  clear c1 f1
  (repeat refine below_set0 ?_ _ _)
  exact pb

set_option maxRecDepth 100000 in
set_option maxHeartbeats 1000000 in
theorem RIGHT_one (s : ByteArray) (l : Nat) (es : List (Nat × Value)) (f : Option Addr) (w : World) (ha : asciiB s = true) (hs : s.size ≤ 1000) (hI : IList w l [⟨2, 0, 0, s⟩] es) :
    Calls Tryz.prog 54 #[.pointer f, .pointer (some ⟨l, 0, none⟩)] w
      fun e w' => e = .returned (.agg #[.string ⟨#[]⟩, .float .f64 0, .string (s.extract (s.size - min 1 s.size) s.size), .slice none 0 0, .slice none 0 0, .bool false, .string ⟨#[]⟩, .int .u8 2, .pointer none, .pointer none]) ∧ Below w.heap.size w w' := by
  have hu80 := Tryz.underlying74
  have HF : Hid (∀ W, Below w.heap.size w W → Calls Tryz.prog 82 #[.pointer f, .string ⟨#[82, 73, 71, 72, 84]⟩, .pointer (some ⟨l, 0, none⟩)] W fun e w' => e = .returned (.agg #[.string ⟨#[]⟩, .float .f64 0, .string (s.extract (s.size - min 1 s.size) s.size), .slice none 0 0, .slice none 0 0, .bool false, .string ⟨#[]⟩, .int .u8 2, .pointer none, .pointer none]) ∧ Below W.heap.size W w') := fun W hW => lr_one_RIGHT s l es f W ha hs (hI.below hW)
  clear hI
  go_enter Tryz.func54, Tryz.ntmps54
  go_wp2_with (go_at_call 82; refine (HF.out _ ((Below.refl _ _).alloc (Nat.le_refl _) _)).mono ?_; rintro e w1 ⟨rfl, hb1⟩; obtain ⟨c1, f1, z1, k1⟩ := box_cells (heap_new1 w _) hb1)
  refine bodyPost_ret (v := .agg #[.string ⟨#[]⟩, .float .f64 0, .string (s.extract (s.size - min 1 s.size) s.size), .slice none 0 0, .slice none 0 0, .bool false, .string ⟨#[]⟩, .int .u8 2, .pointer none, .pointer none]) (by simp [results, Tryz.results54, go_sem, c1]) rfl ⟨rfl, ?_⟩
  have pb := below_one hb1
  clear c1 f1
  (repeat refine below_set0 ?_ _ _)
  exact pb

set_option maxRecDepth 100000 in
set_option maxHeartbeats 1000000 in
theorem LEFT_two (s : ByteArray) (n : Int) (l : Nat) (es : List (Nat × Value)) (f : Option Addr) (w : World) (ha : asciiB s = true) (hs : s.size ≤ 1000) (h0 : 0 ≤ n) (h1 : n ≤ 99999999999) (hI : IList w l [⟨2, 0, 0, s⟩, ⟨1, n, 1, ⟨#[]⟩⟩] es) :
    Calls Tryz.prog 53 #[.pointer f, .pointer (some ⟨l, 0, none⟩)] w
      fun e w' => e = .returned (.agg #[.string ⟨#[]⟩, .float .f64 0, .string (s.extract 0 (min n.toNat s.size)), .slice none 0 0, .slice none 0 0, .bool false, .string ⟨#[]⟩, .int .u8 2, .pointer none, .pointer none]) ∧ Below w.heap.size w w' := by
  have hu80 := Tryz.underlying74
  have HF : Hid (∀ W, Below w.heap.size w W → Calls Tryz.prog 82 #[.pointer f, .string ⟨#[76, 69, 70, 84]⟩, .pointer (some ⟨l, 0, none⟩)] W fun e w' => e = .returned (.agg #[.string ⟨#[]⟩, .float .f64 0, .string (s.extract 0 (min n.toNat s.size)), .slice none 0 0, .slice none 0 0, .bool false, .string ⟨#[]⟩, .int .u8 2, .pointer none, .pointer none]) ∧ Below W.heap.size W w') := fun W hW => lr_two s n l es f W ha hs h0 h1 (hI.below hW)
  clear hI
  go_enter Tryz.func53, Tryz.ntmps53
  go_wp2_with (go_at_call 82; refine (HF.out _ ((Below.refl _ _).alloc (Nat.le_refl _) _)).mono ?_; rintro e w1 ⟨rfl, hb1⟩; obtain ⟨c1, f1, z1, k1⟩ := box_cells (heap_new1 w _) hb1)
  refine bodyPost_ret (v := .agg #[.string ⟨#[]⟩, .float .f64 0, .string (s.extract 0 (min n.toNat s.size)), .slice none 0 0, .slice none 0 0, .bool false, .string ⟨#[]⟩, .int .u8 2, .pointer none, .pointer none]) (by simp [results, Tryz.results53, go_sem, c1]) rfl ⟨rfl, ?_⟩
  have pb := below_one hb1
  clear c1 f1
  (repeat refine below_set0 ?_ _ _)
  exact pb

set_option maxRecDepth 100000 in
set_option maxHeartbeats 1000000 in
theorem LEFT_neg (s : ByteArray) (n : Int) (l : Nat) (es : List (Nat × Value)) (f : Option Addr) (w : World) (ha : asciiB s = true) (hs : s.size ≤ 1000) (h0 : n < 0) (h1 : -99999999999 ≤ n) (hI : IList w l [⟨2, 0, 0, s⟩, ⟨1, n, 1, ⟨#[]⟩⟩] es) :
    Calls Tryz.prog 53 #[.pointer f, .pointer (some ⟨l, 0, none⟩)] w
      fun e w' => e = .returned (.agg #[.string ⟨#[]⟩, .float .f64 0, .string errV, .slice none 0 0, .slice none 0 0, .bool false, .string errV, .int .u8 5, .pointer none, .pointer none]) ∧ Below w.heap.size w w' := by
  have hu80 := Tryz.underlying74
  have HF : Hid (∀ W, Below w.heap.size w W → Calls Tryz.prog 82 #[.pointer f, .string ⟨#[76, 69, 70, 84]⟩, .pointer (some ⟨l, 0, none⟩)] W fun e w' => e = .returned (.agg #[.string ⟨#[]⟩, .float .f64 0, .string errV, .slice none 0 0, .slice none 0 0, .bool false, .string errV, .int .u8 5, .pointer none, .pointer none]) ∧ Below W.heap.size W w') := fun W hW => lr_neg s n l es f W ha hs h0 h1 (hI.below hW)
  clear hI
  go_enter Tryz.func53, Tryz.ntmps53
  go_wp2_with (go_at_call 82; refine (HF.out _ ((Below.refl _ _).alloc (Nat.le_refl _) _)).mono ?_; rintro e w1 ⟨rfl, hb1⟩; obtain ⟨c1, f1, z1, k1⟩ := box_cells (heap_new1 w _) hb1)
  refine bodyPost_ret (v := .agg #[.string ⟨#[]⟩, .float .f64 0, .string errV, .slice none 0 0, .slice none 0 0, .bool false, .string errV, .int .u8 5, .pointer none, .pointer none]) (by simp [results, Tryz.results53, go_sem, c1]) rfl ⟨rfl, ?_⟩
  have pb := below_one hb1
  clear c1 f1
  (repeat refine below_set0 ?_ _ _)
  exact pb

end Go.Proofs.YtcljbgnbdmbkkaaGreatDoor

