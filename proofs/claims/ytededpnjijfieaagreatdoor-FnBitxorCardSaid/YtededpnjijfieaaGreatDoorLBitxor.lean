/-
The law FnBitxor: it returns true, whatever the numbers.
-/
import Derived.Test.YtededpnjijfieaaGreatDoorBitxor
import Derived.Test.YtededpnjijfieaaGreatDoorCallBitxor
import Derived.Test.YtededpnjijfieaaGreatDoorDoor
import Derived.Test.YtededpnjijfieaaGreatDoorLGestep
namespace Go.Proofs.YtededpnjijfieaaGreatDoor
open Go.RowKit Go.Fl

theorem rBitxor_ok (n k : Int) : (rBitxor n k).ok := by
  unfold rBitxor
  split
  · exact error_ok _
  · exact fr_good _

theorem tells_Bitxor (n k : Int) (l : Nat) (es : List (Nat × Value)) (f : Option Addr) (W : World) (b1 : n ≤ 99999999999) (d1 : k ≤ 99999999999) (h6 : (rBitxor n k).kind ≠ 6) (hI : IList W l [⟨1, n, 1, ⟨#[]⟩⟩, ⟨1, k, 1, ⟨#[]⟩⟩] es) :
    Calls Tryz.prog 51 #[.pointer f, .pointer (some ⟨l, 0, none⟩)] W (Tells (rBitxor n k) W) := by
  refine BITXOR_fn (Match (rBitxor n k)) l f W fun W' hW' => ?_
  have hI' : IList W' l [⟨1, n, 1, ⟨#[]⟩⟩, ⟨1, k, 1, ⟨#[]⟩⟩] es := ⟨hI.ring.below hW', hI.len, hI.vals⟩
  by_cases h : n < 0 ∨ k < 0
  · have e : rBitxor n k = ⟨4, 0, 0, eNUM⟩ := by unfold rBitxor; rw [if_pos h]
    rw [e]
    by_cases hn : n < 0
    · refine (bitwise_neg1 n k l es f W' hn hI').mono fun e' w' ⟨he, hb⟩ => ?_
      exact ⟨⟨0, eNUM, false, eNUM, 5⟩, ⟨.inr (.inr (.inl rfl)), rfl, Sx.zero, rfl⟩, he, hb⟩
    · refine (bitwise_neg2 n k l es f W' (by omega) b1 (by omega) hI').mono fun e' w' ⟨he, hb⟩ => ?_
      exact ⟨⟨0, eNUM, false, eNUM, 5⟩, ⟨.inr (.inr (.inl rfl)), rfl, Sx.zero, rfl⟩, he, hb⟩
  · have e : rBitxor n k = fr (16 * bits .xor .i64 n k) := by unfold rBitxor; rw [if_neg h]
    rcases fr_whole (bits .xor .i64 n k) with ⟨e1, c1, c2⟩ | e1
    · rw [e, e1]
      refine (bitwise_pos n k l es f W' (by omega) (by omega) b1 d1 c1 c2 hI').mono fun e' w' ⟨⟨y, hy, he⟩, hb⟩ => ?_
      exact ⟨⟨y, ⟨#[]⟩, false, ⟨#[]⟩, 1⟩, ⟨.inl rfl, rfl, by rw [whole_six]; exact hy, rfl⟩, he, hb⟩
    · exfalso
      apply h6
      rw [e, e1]

theorem bitxor_agrees (m k : Int) (v : Value) (w : World) (hr : Row w w.heap.size 5 v [FV.list (fr (16 * m)), FV.list (fr (16 * k))]) :
    Calls Tryz.prog 11 #[.func (.func 18) #[] #[], .string ⟨#[66, 73, 84, 88, 79, 82]⟩, v] w fun e w' => e = .returned (.bool true) ∧ Below w.heap.size w w' := by
  have hall : ∀ z ∈ [fr (16 * m), fr (16 * k)], z.ok := by simpa using ⟨fr_good _, fr_good _⟩
  have hno : (fr (16 * m)).kind = 6 ∨ (fr (16 * k)).kind = 6 → Calls Tryz.prog 11 #[.func (.func 18) #[] #[], .string ⟨#[66, 73, 84, 88, 79, 82]⟩, v] w fun e w' => e = .returned (.bool true) ∧ Below w.heap.size w w' := by
    intro h6
    have o1 : ∀ j : Int, (fr (16 * j)).kind = 1 ∨ fr (16 * j) = ⟨6, 0, 0, ⟨#[]⟩⟩ := fun j => fr_two _
    exact agrees_flat _ _ [fr (16 * m), fr (16 * k)] ⟨6, 0, 0, ⟨#[]⟩⟩ v w hr hall (by simp) doubt_ok (fun W hW => call_Bitxor_no _ _ v W ((hr.below hW).more hW.size) (o1 m) (o1 k) h6) enter_BITXOR (fun hu => by rcases h6 with h | h <;> simp [anyUnsure, h] at hu)
  rcases fr_whole m with ⟨e, b1, b2⟩ | e
  · rcases fr_whole k with ⟨e', d1, d2⟩ | e'
    · rw [e, e'] at hr hall
      refine agrees_flat _ _ [⟨1, m, 1, ⟨#[]⟩⟩, ⟨1, k, 1, ⟨#[]⟩⟩] (rBitxor m k) v w hr hall (by simp) (rBitxor_ok m k) (fun W hW => call_Bitxor m k v W ((hr.below hW).more hW.size) b1 b2 d1 d2) enter_BITXOR ?_
      intro _ h6 W v' hR
      exact impl_BITXOR [⟨1, m, 1, ⟨#[]⟩⟩, ⟨1, k, 1, ⟨#[]⟩⟩] (rBitxor m k) v' W hR hall (by simp) fun W f l es hI => tells_Bitxor m k l es f W b1 d1 h6 hI
    · exact hno (.inr (by rw [e']))
  · exact hno (.inl (by rw [e]))

set_option maxRecDepth 100000 in
theorem law_Bitxor (n k : Int) (w : World) :
    Calls Tryz.prog 7 #[.int .i64 n, .int .i64 k] w fun e w' => e = .returned (.bool true) ∧ Below w.heap.size w w' := by
  have hn := argWhole_any n
  have hk := argWhole_any k
  obtain ⟨x, hx⟩ : ∃ x, x = fr (16 * n) := ⟨_, rfl⟩
  obtain ⟨y, hy⟩ : ∃ y, y = fr (16 * k) := ⟨_, rfl⟩
  have HA : Hid (∀ W : World, Calls Tryz.prog 11 #[.func (.func 18) #[] #[], .string ⟨#[66, 73, 84, 88, 79, 82]⟩, .slice (some ⟨W.heap.size, 0, none⟩) 2 2] (W.alloc (.cells #[.int .i64 x.kind, .int .i64 x.num, .int .i64 x.den, .string x.text, .slice none 0 0, .int .i64 y.kind, .int .i64 y.num, .int .i64 y.den, .string y.text, .slice none 0 0] 26)) fun e w' => e = .returned (.bool true) ∧ Below (W.alloc (.cells #[.int .i64 x.kind, .int .i64 x.num, .int .i64 x.den, .string x.text, .slice none 0 0, .int .i64 y.kind, .int .i64 y.num, .int .i64 y.den, .string y.text, .slice none 0 0] 26)).heap.size (W.alloc (.cells #[.int .i64 x.kind, .int .i64 x.num, .int .i64 x.den, .string x.text, .slice none 0 0, .int .i64 y.kind, .int .i64 y.num, .int .i64 y.den, .string y.text, .slice none 0 0] 26)) w') := by
    rw [hx, hy]
    exact fun W => bitxor_agrees _ _ _ _ (Row.lit2 W _ _ _ _ rfl)
  rw [← hx] at hn
  rw [← hy] at hk
  have HN := Lib.hid hn
  have HK := Lib.hid hk
  clear hx hy hn hk
  go_enter Tryz.func7, Tryz.ntmps7
  go_wp2_with fail
  refine (HN.out _).mono ?_
  rintro e w1 ⟨rfl, hb1⟩
  go_wp2_with fail
  refine (HK.out _).mono ?_
  rintro e w2 ⟨rfl, hb2⟩
  go_wp2_with fail
  refine (HA.out _).mono ?_
  rintro e w3 ⟨rfl, hb3⟩
  go_wp2
  go_ret
  have pb2 := hb1.trans (hb2.mono hb1.size)
  exact ⟨rfl, below_box pb2 pb2.size hb3⟩

end Go.Proofs.YtededpnjijfieaaGreatDoor
