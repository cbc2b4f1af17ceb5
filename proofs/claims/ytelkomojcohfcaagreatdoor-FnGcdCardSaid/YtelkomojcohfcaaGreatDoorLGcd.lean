/-
The law FnGcd: it returns true, whatever the list.
-/
import Derived.Test.YtelkomojcohfcaaGreatDoorCallGcd
import Derived.Test.YtelkomojcohfcaaGreatDoorGcd
import Derived.Test.YtelkomojcohfcaaGreatDoorDoor
import Derived.Test.YtelkomojcohfcaaGreatDoorArgsW
namespace Go.Proofs.YtelkomojcohfcaaGreatDoor
open Go.RowKit Go.Fl

theorem fr_three (m : Int) : (fr m).kind = 1 ∨ (fr m) = ⟨6, 0, 0, ⟨#[]⟩⟩ := by
  by_cases h : nn m ≤ 99999999999 ∧ -99999999999 ≤ nn m
  · rw [fr_in h]; exact .inl rfl
  · rw [fr_out h]; exact .inr rfl

theorem wh_ok (n : Nat) (h : n ≤ 99999999999) : (wh n).ok := whole_ok _ (by omega) (by omega)

theorem gcd_agrees (ns : List Int) (v : Value) (w : World) (hr : Row w w.heap.size 5 v ((ns.map fun n => fr (16 * n)).map FV.list)) (hn : ns.length ≤ 30) :
    Calls Tryz.prog 4 #[.func (.func 5) #[] #[], .string ⟨#[71, 67, 68]⟩, v] w fun e w' => e = .returned (.bool true) ∧ Below w.heap.size w w' := by
  by_cases h : 0 < ns.length ∧ ∀ n ∈ ns, 0 ≤ n ∧ n ≤ 1000
  · have e : (ns.map fun n => fr (16 * n)) = (ns.map Int.toNat).map wh := by
      rw [List.map_map]
      refine List.map_congr_left fun n hnn => ?_
      obtain ⟨h1, h2⟩ := h.2 n hnn
      show fr (16 * n) = wh n.toNat
      rw [fr_int n ⟨by omega, by omega⟩]
      unfold wh
      rw [Int.toNat_of_nonneg h1]
    rw [e] at hr
    obtain ⟨ms, hms⟩ : ∃ ms, ms = ns.map Int.toNat := ⟨_, rfl⟩
    rw [← hms] at hr
    have hl : ms.length = ns.length := by rw [hms, List.length_map]
    have hB : ∀ n ∈ ms, n ≤ 1000 := by
      intro n hnn
      rw [hms] at hnn
      obtain ⟨m, hm, rfl⟩ := List.mem_map.1 hnn
      have := h.2 m hm
      omega
    have hg : gcds ms ≤ 1000 := by
      have := gcds_le ms 1000 hB ms.length
      rwa [List.take_length] at this
    have hok : ∀ x ∈ ms.map wh, x.ok := by
      intro x hx
      obtain ⟨n, hnn, rfl⟩ := List.mem_map.1 hx
      exact wh_ok n (by have := hB n hnn; omega)
    refine agrees_flat _ _ (ms.map wh) (wh (gcds ms)) v w hr hok (by rw [List.length_map]; omega) (wh_ok _ (by omega)) (fun W hW => call_Gcd ms v W ((hr.below hW).more hW.size) hB (by omega) (by omega)) enter_GCD ?_
    intro _ _ W v' hR
    refine impl_GCD (ms.map wh) _ v' W hR hok (by rw [List.length_map]; omega) fun W f l es hI => ?_
    refine (GCD_fn ms l es f W hB (by omega) (by omega) hI).mono fun e' w' ⟨⟨y, hy, he⟩, hb⟩ => ?_
    exact ⟨⟨y, ⟨#[]⟩, false, ⟨#[]⟩, 1⟩, ⟨.inl rfl, rfl, by rw [wh_six]; exact hy, rfl⟩, he, hb⟩
  · have hok : ∀ x ∈ ns.map fun n => fr (16 * n), x.ok := by
      intro x hx
      obtain ⟨n, _, rfl⟩ := List.mem_map.1 hx
      exact fr_good _
    have hk : ∀ x ∈ ns.map fun n => fr (16 * n), x.kind = 1 ∨ x = ⟨6, 0, 0, ⟨#[]⟩⟩ := by
      intro x hx
      obtain ⟨n, _, rfl⟩ := List.mem_map.1 hx
      exact fr_three _
    have hE : (decide (0 < (ns.map fun n => fr (16 * n)).length) && (ns.map fun n => fr (16 * n)).all gcdB) = false := by
      rw [List.length_map]
      rcases Nat.eq_zero_or_pos ns.length with h0 | h0
      · simp [h0]
      · have h1 : (ns.map fun n => fr (16 * n)).all gcdB = false := by
          rw [List.all_eq_false]
          by_cases hx : ∃ n ∈ ns, ¬ (0 ≤ n ∧ n ≤ 1000)
          · obtain ⟨n, hnn, hnb⟩ := hx
            refine ⟨fr (16 * n), List.mem_map.2 ⟨n, hnn, rfl⟩, ?_⟩
            rcases fr_whole n with ⟨e, _, _⟩ | e
            · rw [e]; simp [gcdB, btw]; omega
            · rw [e]; simp [gcdB]
          · exfalso
            exact h ⟨h0, fun n hnn => Classical.byContradiction fun hc => hx ⟨n, hnn, hc⟩⟩
        rw [h1]; simp
    exact agrees_flat _ _ _ ⟨6, 0, 0, ⟨#[]⟩⟩ v w hr hok (by rw [List.length_map]; omega) doubt_ok (fun W hW => call_Gcd_no _ v W ((hr.below hW).more hW.size) hk (by rw [List.length_map]; omega) hE) enter_GCD (fun _ h6 => absurd rfl h6)

set_option maxRecDepth 100000 in
set_option maxHeartbeats 1000000 in
theorem law_Gcd (bs : List Int) (v : Value) (w : World) (hr : Row w w.heap.size 1 v (bs.map fun n => [Value.int .i64 n])) :
    Calls Tryz.prog 3 #[v] w fun e w' => e = .returned (.bool true) ∧ Below w.heap.size w w' := by
  obtain ⟨A, c, hv⟩ : ∃ A c, v = .slice A bs.length c := by
    obtain ⟨A, c, h, _⟩ := hr
    exact ⟨A, c, by rw [List.length_map] at h; exact h⟩
  subst hv
  by_cases h1 : (2147483647 : Int) < (bs.length : Int)
  · clear hr
    go_enter Tryz.func3, Tryz.ntmps3
    go_wp2
    go_ret
    exact ⟨rfl, Below.refl _ _⟩
  · by_cases h2 : (30 : Int) < (bs.length : Int)
    · clear hr
      go_enter Tryz.func3, Tryz.ntmps3
      go_wp2
      go_ret
      exact ⟨rfl, Below.refl _ _⟩
    · have HR := Lib.hid hr
      have hn : bs.length ≤ 30 := by omega
      have HA : Hid (∀ (W : World) (v' : Value), Row W W.heap.size 5 v' ((bs.map fun n => fr (16 * n)).map FV.list) → Calls Tryz.prog 4 #[.func (.func 5) #[] #[], .string ⟨#[71, 67, 68]⟩, v'] W fun e w' => e = .returned (.bool true) ∧ Below W.heap.size W w') :=
        fun W v' hW => gcd_agrees bs v' W hW hn
      clear hr
      go_enter Tryz.func3, Tryz.ntmps3
      go_wp2_with (first
        | (go_at_call 6; refine (argWholes_any bs _ _ HR.out (by omega)).mono ?_; rintro e w1 ⟨v1, rfl, hR1, hb1⟩; have HR1 := Lib.hid hR1; clear hR1)
        | (go_at_call 4; refine (HA.out _ _ HR1.out).mono ?_; rintro e w2 ⟨rfl, hb2⟩))
      go_ret
      exact ⟨rfl, hb1.trans (hb2.mono hb1.size)⟩

end Go.Proofs.YtelkomojcohfcaaGreatDoor
