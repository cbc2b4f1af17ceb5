/-
'Read' of the reference, walked.
-/
import Derived.Test.YtopomonencffkaaGreatDoorReadR
namespace Go.Proofs.YtopomonencffkaaGreatDoor
open Go.RowKit

set_option maxRecDepth 100000 in
set_option maxHeartbeats 4000000 in
theorem read_any (s : ByteArray) (w : World) (hs : s.size ≤ 1000000000) :
    Calls Tryz.prog 218 #[.string s] w fun e w' => e = .returned (.agg #[.int .i64 (rd s).kind, .int .i64 (rd s).num, .int .i64 (rd s).den, .string (rd s).text, .slice none 0 0]) ∧ Below w.heap.size w w' := by
  have hlen : s.data.toList.length = s.size := Array.length_toList
  obtain ⟨w0, hw0⟩ : ∃ w0 : World, w0 = w.alloc (.cells #[.int .i64 0, .int .i64 0, .int .i64 0, .string ⟨#[]⟩, .slice none 0 0] 34) := ⟨_, rfl⟩
  have hb0 : Below w.heap.size w w0 := by rw [hw0]; exact (Below.refl _ _).alloc (Nat.le_refl _) _
  have k0 : w0.heap[w.heap.size]? = some (.cells #[.int .i64 0, .int .i64 0, .int .i64 0, .string ⟨#[]⟩, .slice none 0 0] 34) := by rw [hw0]; exact heap_new1 _ _
  have HW0 := Lib.hid hw0.symm
  have HS : Hid (s.size ≤ 1000000000) := hs
  clear hw0
  have hu26 := Tryz.underlying34
  obtain ⟨r, hr⟩ : ∃ r, r = rd s := ⟨_, rfl⟩
  rw [← hr]
  have HR := Lib.hid hr
  clear hr
  by_cases hfirst : s.data.toList[0]? = some 45
  · have HF := Lib.hid hfirst
    have hsz : 1 ≤ s.size := by
      have := (List.getElem?_eq_some_iff.1 hfirst).1
      omega
    have hgi : s[0] = (45 : UInt8) := by
      have h2 := Lib.data_getElem? s 0 (by omega)
      rw [hfirst] at h2
      injection h2 with h2
      exact h2.symm
    have hsi : (0 : Int) < (s.size : Int) := by omega
    have g1 : ((s[0].toNat : Int) == 45) = true := by rw [hgi]; rfl
    clear hfirst hgi
    go_enter Tryz.func218, Tryz.ntmps218
    go_wp2
    rw [HW0.out]
    · skip
      obtain ⟨R, hR⟩ : ∃ R, R = rdGo (s.data.toList.drop 1) 0 0 1 false := ⟨_, rfl⟩
      have HRR : Hid (rd s = rdEnd s true R) := by
        rw [Hid, hR]; unfold rd; rw [if_pos HF.out]
      have HG := Lib.hid hR
      clear hR
      go_loop [3, 5, 6, 7, 8, 9, 31, 53] (fun a n m d p _ _ _ => ∃ (k N M D : Nat) (P : Bool), k ≤ s.size ∧ a = .int .i64 k ∧ n = .int .i64 N ∧ m = .int .i64 M ∧ d = .int .i64 D ∧ p = .bool P ∧ M ≤ 12 ∧ N < 10 ^ M ∧ 1 ≤ D ∧ D ≤ 10 ^ M ∧ rdGo (s.data.toList.drop k) N M D P = R) (fun a _ _ _ _ _ _ _ => s.size - (intOf a).toNat)
      case atStart => exact ⟨1, 0, 0, 1, false, hsz, rfl, rfl, rfl, rfl, rfl, by omega, by omega, by omega, by omega, HG.out.symm⟩
      case round =>
        obtain ⟨k, N, M, D, P, hk1, rfl, rfl, rfl, rfl, rfl, hM, hN, hD1, hD, hgo⟩ := hrel
        by_cases hlt : k < s.size
        · obtain ⟨x, hx⟩ : ∃ x : UInt8, s[k] = x := ⟨_, rfl⟩
          have hxl : s.data.toList[k]? = some x := by rw [← hx]; exact Lib.data_getElem? s k hlt
          have hkl : k < s.data.toList.length := by omega
          have hdrop : s.data.toList.drop k = x :: s.data.toList.drop (k + 1) := by
            rw [List.drop_eq_getElem_cons hkl, (List.getElem?_eq_some_iff.1 hxl).2]
          have hnil : (s.data.toList.drop (k + 1) ≠ []) ↔ k + 1 < s.size := by
            rw [← List.length_pos_iff, List.length_drop]; omega
          rw [hdrop] at hgo
          unfold rdGo at hgo
          have HK : Hid (k < s.size) := hlt
          have hkz : (k : Int) < (s.size : Int) := by omega
          clear hxl hdrop hkl
          by_cases ha : 48 ≤ x.toNat ∧ x.toNat ≤ 57 ∧ M < 12
          · rw [if_pos ha] at hgo
            obtain ⟨a1, a2, a3⟩ := ha
            have hp : 10 ^ M ≤ 10 ^ 11 := Nat.pow_le_pow_right (by omega) (by omega)
            have hN2 : N < 100000000000 := by omega
            have hD2 : D ≤ 100000000000 := by omega
            have HINV : Hid (10 * N + (x.toNat - 48) < 10 ^ (M + 1) ∧ D * 10 ≤ 10 ^ (M + 1)) := by
              rw [Hid, Nat.pow_succ]; omega
            have b1 : (48 : Int) ≤ (x.toNat : Int) := by omega
            have b2 : (x.toNat : Int) ≤ 57 := by omega
            have b3 : (M : Int) < 12 := by omega
            have HGO := Lib.hid hgo
            have HB : Hid (48 ≤ x.toNat ∧ x.toNat ≤ 57 ∧ M < 12 ∧ N < 100000000000 ∧ D ≤ 100000000000 ∧ N < 10 ^ M ∧ 1 ≤ D ∧ D ≤ 10 ^ M) := ⟨a1, a2, a3, hN2, hD2, hN, hD1, hD⟩
            clear hgo hp a1 a2 a3 hN hD hD1 hD2 hM hnil
            cases P
            · go_wp2
              have hlt := HK.out
              obtain ⟨a1, a2, a3, hN2, hD2, hN, hD1, hD⟩ := HB.out
              have HI := HINV.out
              go_round
              case rel => exact ⟨k + 1, 10 * N + (x.toNat - 48), M + 1, D, false, by omega, by go_num, by go_num, by go_num, rfl, rfl, by omega, HI.1, hD1, by omega, HGO.out⟩
              case measure => simp [intOf]; omega
            · have hwd : wrap64 ((D : Int) * 10) = (D : Int) * 10 := by have := HB.out; unfold wrap64; omega
              go_wp2
              have hlt := HK.out
              obtain ⟨a1, a2, a3, hN2, hD2, hN, hD1, hD⟩ := HB.out
              have HI := HINV.out
              go_round
              case rel => exact ⟨k + 1, 10 * N + (x.toNat - 48), M + 1, D * 10, true, by omega, by go_num, by go_num, by go_num, by go_num, rfl, by omega, HI.1, by omega, HI.2, HGO.out⟩
              case measure => simp [intOf]; omega
          · rw [if_neg ha] at hgo
            by_cases hb : x.toNat = 46 ∧ P = false ∧ 0 < M ∧ s.data.toList.drop (k + 1) ≠ []
            · rw [if_pos hb] at hgo
              obtain ⟨d1, d2, d3, d4⟩ := hb
              have d4 := hnil.1 d4
              subst d2
              have e1 : ¬ (48 : Int) ≤ (x.toNat : Int) := by omega
              have e2 : ((x.toNat : Int) == 46) = true := by simp; omega
              have e3 : (0 : Int) < (M : Int) := by omega
              have e4 : (k : Int) + 1 < (s.size : Int) := by omega
              have HGO := Lib.hid hgo
              have HB : Hid (N < 10 ^ M ∧ 1 ≤ D ∧ D ≤ 10 ^ M ∧ M ≤ 12) := ⟨hN, hD1, hD, hM⟩
              clear hgo ha d1 d3 d4 hN hD hD1 hM hnil
              go_wp2
              have hlt := HK.out
              obtain ⟨hN, hD1, hD, hM⟩ := HB.out
              go_round
              case rel => exact ⟨k + 1, N, M, D, true, by omega, by go_num, rfl, rfl, rfl, rfl, hM, hN, hD1, hD, HGO.out⟩
              case measure => simp [intOf]; omega
            · rw [if_neg hb] at hgo
              have hr := HR.out
              rw [HRR.out, ← hgo] at hr
              have HO : Hid (r = oth s) := hr
              have c1 : (¬ (48 : Int) ≤ (x.toNat : Int)) ∨ ((48 : Int) ≤ (x.toNat : Int) ∧ ¬ (x.toNat : Int) ≤ 57) ∨ ((48 : Int) ≤ (x.toNat : Int) ∧ (x.toNat : Int) ≤ 57 ∧ ¬ (M : Int) < 12) := by omega
              have c2 : (((x.toNat : Int) == 46) = false) ∨ (((x.toNat : Int) == 46) = true ∧ P = true) ∨ (((x.toNat : Int) == 46) = true ∧ P = false ∧ ¬ (0 : Int) < (M : Int)) ∨ (((x.toNat : Int) == 46) = true ∧ P = false ∧ (0 : Int) < (M : Int) ∧ ¬ (k : Int) + 1 < (s.size : Int)) := by
                rw [hnil] at hb
                by_cases q1 : x.toNat = 46
                · have q1' : ((x.toNat : Int) == 46) = true := by simp; omega
                  cases P
                  · by_cases q2 : 0 < M
                    · exact .inr (.inr (.inr ⟨q1', rfl, by omega, fun q3 => hb ⟨q1, rfl, q2, by omega⟩⟩))
                    · exact .inr (.inr (.inl ⟨q1', rfl, by omega⟩))
                  · exact .inr (.inl ⟨q1', rfl⟩)
                · exact .inl (by simp; omega)
              clear hgo ha hb hr hN hD hD1 hM hnil HRR HG
              rcases c1 with c1 | c1 | c1 <;> rcases c2 with c2 | c2 | c2 | c2 <;>
              · first | skip
                try simp only [and_assoc] at c1 c2
                try (obtain ⟨c1, c3⟩ := c1)
                try (obtain ⟨c3, c4⟩ := c3)
                try (obtain ⟨c2, c5⟩ := c2)
                try (obtain ⟨c5, c6⟩ := c5)
                try (obtain ⟨c6, c7⟩ := c6)
                try subst c5
                go_wp2_with (go_at_call 228; refine (other_any s _ HS.out).mono ?_; rintro e w1 ⟨rfl, hb1⟩; rw [← HO.out]; obtain ⟨cc, ff, zz, kk⟩ := box_cells k0 hb1; have pb := below_next hb0 hb0.size hb1)
                all_goals
                  refine bodyPost_ret (v := .agg #[.int .i64 (r).kind, .int .i64 (r).num, .int .i64 (r).den, .string (r).text, .slice none 0 0]) (by simp [results, Tryz.results218, go_sem, cc]) rfl ⟨rfl, ?_⟩
                  clear cc ff
                  (repeat refine below_set0 ?_ _ _)
                  exact pb
        · obtain rfl : k = s.size := by omega
          have hdn : s.data.toList.drop s.size = [] := List.drop_eq_nil_of_le (by omega)
          rw [hdn] at hgo
          unfold rdGo at hgo
          have hr := HR.out
          rw [HRR.out, ← hgo] at hr
          simp only [rdEnd] at hr
          have hp : 10 ^ M ≤ 10 ^ 12 := Nat.pow_le_pow_right (by omega) (by omega)
          have hN2 : N < 1000000000000 := by omega
          by_cases hm0 : M = 0
          · rw [if_pos (.inl hm0)] at hr
            have HO : Hid (r = oth s) := hr
            have t1 : ((M : Int) == 0) = true := by simp; omega
            clear hr hgo hp hN hD hD1 hM hm0 HRR HG hdn
            go_wp2_with (go_at_call 228; refine (other_any s _ HS.out).mono ?_; rintro e w1 ⟨rfl, hb1⟩; rw [← HO.out]; obtain ⟨cc, ff, zz, kk⟩ := box_cells k0 hb1; have pb := below_next hb0 hb0.size hb1)
            refine bodyPost_ret (v := .agg #[.int .i64 (r).kind, .int .i64 (r).num, .int .i64 (r).den, .string (r).text, .slice none 0 0]) (by simp [results, Tryz.results218, go_sem, cc]) rfl ⟨rfl, ?_⟩
            clear cc ff
            (repeat refine below_set0 ?_ _ _)
            exact pb
          · have t1 : ((M : Int) == 0) = false := by simp; omega
            by_cases hd0 : 100000 < D
            · rw [if_pos (.inr hd0)] at hr
              have HO : Hid (r = oth s) := hr
              have t2 : (100000 : Int) < (D : Int) := by omega
              clear hr hgo hp hN hD hD1 hM hm0 HRR HG hdn hd0
              go_wp2_with (go_at_call 228; refine (other_any s _ HS.out).mono ?_; rintro e w1 ⟨rfl, hb1⟩; rw [← HO.out]; obtain ⟨cc, ff, zz, kk⟩ := box_cells k0 hb1; have pb := below_next hb0 hb0.size hb1)
              refine bodyPost_ret (v := .agg #[.int .i64 (r).kind, .int .i64 (r).num, .int .i64 (r).den, .string (r).text, .slice none 0 0]) (by simp [results, Tryz.results218, go_sem, cc]) rfl ⟨rfl, ?_⟩
              clear cc ff
              (repeat refine below_set0 ?_ _ _)
              exact pb
            · rw [if_neg (by omega)] at hr
              have t2 : ¬ (100000 : Int) < (D : Int) := by omega
              have HF2 : Hid (r = frc (-(N : Int)) (D : Int)) := by simpa [Hid] using hr
              have HB : Hid (N < 1000000000000 ∧ 1 ≤ D ∧ D ≤ 100000) := ⟨hN2, hD1, by omega⟩
              have hwn : wrap64 (-(N : Int)) = -(N : Int) := by unfold wrap64; omega
              clear hr hgo hp hN hD hD1 hM hm0 HRR HG hdn hd0
              go_wp2_with (go_at_call 38; refine (frac_all _ _ _ (by have := HB.out; omega) (by have := HB.out; omega) (by have := HB.out; omega) (by have := HB.out; omega)).mono ?_; rintro e w1 ⟨rfl, hb1⟩; rw [← HF2.out]; obtain ⟨cc, ff, zz, kk⟩ := box_cells k0 hb1; have pb := below_next hb0 hb0.size hb1)
              refine bodyPost_ret (v := .agg #[.int .i64 (r).kind, .int .i64 (r).num, .int .i64 (r).den, .string (r).text, .slice none 0 0]) (by simp [results, Tryz.results218, go_sem, cc]) rfl ⟨rfl, ?_⟩
              clear cc ff
              (repeat refine below_set0 ?_ _ _)
              exact pb
  · have HF : Hid (¬ s.data.toList[0]? = some 45) := hfirst
    have hsz : 0 ≤ s.size := Nat.zero_le _
    by_cases hsi : (0 : Int) < (s.size : Int)
    · have hlt0 : 0 < s.size := by omega
      have g1 : ((s[0].toNat : Int) == 45) = false := by
        have h2 := Lib.data_getElem? s 0 hlt0
        rw [h2] at hfirst
        have h3 : s[0] ≠ 45 := fun h => hfirst (by rw [h])
        have h4 : s[0].toNat ≠ 45 := fun h => h3 (UInt8.toNat_inj.1 (by rw [h]; rfl))
        simp; omega
      clear hfirst
      go_enter Tryz.func218, Tryz.ntmps218
      go_wp2
      rw [HW0.out]
      obtain ⟨R, hR⟩ : ∃ R, R = rdGo (s.data.toList.drop 0) 0 0 1 false := ⟨_, rfl⟩
      have HRR : Hid (rd s = rdEnd s false R) := by
        rw [Hid, hR]; unfold rd; rw [if_neg HF.out]; rfl
      have HG := Lib.hid hR
      clear hR
      go_loop [3, 5, 6, 7, 8, 9, 31, 53] (fun a n m d p _ _ _ => ∃ (k N M D : Nat) (P : Bool), k ≤ s.size ∧ a = .int .i64 k ∧ n = .int .i64 N ∧ m = .int .i64 M ∧ d = .int .i64 D ∧ p = .bool P ∧ M ≤ 12 ∧ N < 10 ^ M ∧ 1 ≤ D ∧ D ≤ 10 ^ M ∧ rdGo (s.data.toList.drop k) N M D P = R) (fun a _ _ _ _ _ _ _ => s.size - (intOf a).toNat)
      case atStart => exact ⟨0, 0, 0, 1, false, hsz, rfl, rfl, rfl, rfl, rfl, by omega, by omega, by omega, by omega, HG.out.symm⟩
      case round =>
        obtain ⟨k, N, M, D, P, hk1, rfl, rfl, rfl, rfl, rfl, hM, hN, hD1, hD, hgo⟩ := hrel
        by_cases hlt : k < s.size
        · obtain ⟨x, hx⟩ : ∃ x : UInt8, s[k] = x := ⟨_, rfl⟩
          have hxl : s.data.toList[k]? = some x := by rw [← hx]; exact Lib.data_getElem? s k hlt
          have hkl : k < s.data.toList.length := by omega
          have hdrop : s.data.toList.drop k = x :: s.data.toList.drop (k + 1) := by
            rw [List.drop_eq_getElem_cons hkl, (List.getElem?_eq_some_iff.1 hxl).2]
          have hnil : (s.data.toList.drop (k + 1) ≠ []) ↔ k + 1 < s.size := by
            rw [← List.length_pos_iff, List.length_drop]; omega
          rw [hdrop] at hgo
          unfold rdGo at hgo
          have HK : Hid (k < s.size) := hlt
          have hkz : (k : Int) < (s.size : Int) := by omega
          clear hxl hdrop hkl
          by_cases ha : 48 ≤ x.toNat ∧ x.toNat ≤ 57 ∧ M < 12
          · rw [if_pos ha] at hgo
            obtain ⟨a1, a2, a3⟩ := ha
            have hp : 10 ^ M ≤ 10 ^ 11 := Nat.pow_le_pow_right (by omega) (by omega)
            have hN2 : N < 100000000000 := by omega
            have hD2 : D ≤ 100000000000 := by omega
            have HINV : Hid (10 * N + (x.toNat - 48) < 10 ^ (M + 1) ∧ D * 10 ≤ 10 ^ (M + 1)) := by
              rw [Hid, Nat.pow_succ]; omega
            have b1 : (48 : Int) ≤ (x.toNat : Int) := by omega
            have b2 : (x.toNat : Int) ≤ 57 := by omega
            have b3 : (M : Int) < 12 := by omega
            have HGO := Lib.hid hgo
            have HB : Hid (48 ≤ x.toNat ∧ x.toNat ≤ 57 ∧ M < 12 ∧ N < 100000000000 ∧ D ≤ 100000000000 ∧ N < 10 ^ M ∧ 1 ≤ D ∧ D ≤ 10 ^ M) := ⟨a1, a2, a3, hN2, hD2, hN, hD1, hD⟩
            clear hgo hp a1 a2 a3 hN hD hD1 hD2 hM hnil
            cases P
            · go_wp2
              have hlt := HK.out
              obtain ⟨a1, a2, a3, hN2, hD2, hN, hD1, hD⟩ := HB.out
              have HI := HINV.out
              go_round
              case rel => exact ⟨k + 1, 10 * N + (x.toNat - 48), M + 1, D, false, by omega, by go_num, by go_num, by go_num, rfl, rfl, by omega, HI.1, hD1, by omega, HGO.out⟩
              case measure => simp [intOf]; omega
            · have hwd : wrap64 ((D : Int) * 10) = (D : Int) * 10 := by have := HB.out; unfold wrap64; omega
              go_wp2
              have hlt := HK.out
              obtain ⟨a1, a2, a3, hN2, hD2, hN, hD1, hD⟩ := HB.out
              have HI := HINV.out
              go_round
              case rel => exact ⟨k + 1, 10 * N + (x.toNat - 48), M + 1, D * 10, true, by omega, by go_num, by go_num, by go_num, by go_num, rfl, by omega, HI.1, by omega, HI.2, HGO.out⟩
              case measure => simp [intOf]; omega
          · rw [if_neg ha] at hgo
            by_cases hb : x.toNat = 46 ∧ P = false ∧ 0 < M ∧ s.data.toList.drop (k + 1) ≠ []
            · rw [if_pos hb] at hgo
              obtain ⟨d1, d2, d3, d4⟩ := hb
              have d4 := hnil.1 d4
              subst d2
              have e1 : ¬ (48 : Int) ≤ (x.toNat : Int) := by omega
              have e2 : ((x.toNat : Int) == 46) = true := by simp; omega
              have e3 : (0 : Int) < (M : Int) := by omega
              have e4 : (k : Int) + 1 < (s.size : Int) := by omega
              have HGO := Lib.hid hgo
              have HB : Hid (N < 10 ^ M ∧ 1 ≤ D ∧ D ≤ 10 ^ M ∧ M ≤ 12) := ⟨hN, hD1, hD, hM⟩
              clear hgo ha d1 d3 d4 hN hD hD1 hM hnil
              go_wp2
              have hlt := HK.out
              obtain ⟨hN, hD1, hD, hM⟩ := HB.out
              go_round
              case rel => exact ⟨k + 1, N, M, D, true, by omega, by go_num, rfl, rfl, rfl, rfl, hM, hN, hD1, hD, HGO.out⟩
              case measure => simp [intOf]; omega
            · rw [if_neg hb] at hgo
              have hr := HR.out
              rw [HRR.out, ← hgo] at hr
              have HO : Hid (r = oth s) := hr
              have c1 : (¬ (48 : Int) ≤ (x.toNat : Int)) ∨ ((48 : Int) ≤ (x.toNat : Int) ∧ ¬ (x.toNat : Int) ≤ 57) ∨ ((48 : Int) ≤ (x.toNat : Int) ∧ (x.toNat : Int) ≤ 57 ∧ ¬ (M : Int) < 12) := by omega
              have c2 : (((x.toNat : Int) == 46) = false) ∨ (((x.toNat : Int) == 46) = true ∧ P = true) ∨ (((x.toNat : Int) == 46) = true ∧ P = false ∧ ¬ (0 : Int) < (M : Int)) ∨ (((x.toNat : Int) == 46) = true ∧ P = false ∧ (0 : Int) < (M : Int) ∧ ¬ (k : Int) + 1 < (s.size : Int)) := by
                rw [hnil] at hb
                by_cases q1 : x.toNat = 46
                · have q1' : ((x.toNat : Int) == 46) = true := by simp; omega
                  cases P
                  · by_cases q2 : 0 < M
                    · exact .inr (.inr (.inr ⟨q1', rfl, by omega, fun q3 => hb ⟨q1, rfl, q2, by omega⟩⟩))
                    · exact .inr (.inr (.inl ⟨q1', rfl, by omega⟩))
                  · exact .inr (.inl ⟨q1', rfl⟩)
                · exact .inl (by simp; omega)
              clear hgo ha hb hr hN hD hD1 hM hnil HRR HG
              rcases c1 with c1 | c1 | c1 <;> rcases c2 with c2 | c2 | c2 | c2 <;>
              · first | skip
                try simp only [and_assoc] at c1 c2
                try (obtain ⟨c1, c3⟩ := c1)
                try (obtain ⟨c3, c4⟩ := c3)
                try (obtain ⟨c2, c5⟩ := c2)
                try (obtain ⟨c5, c6⟩ := c5)
                try (obtain ⟨c6, c7⟩ := c6)
                try subst c5
                go_wp2_with (go_at_call 228; refine (other_any s _ HS.out).mono ?_; rintro e w1 ⟨rfl, hb1⟩; rw [← HO.out]; obtain ⟨cc, ff, zz, kk⟩ := box_cells k0 hb1; have pb := below_next hb0 hb0.size hb1)
                all_goals
                  refine bodyPost_ret (v := .agg #[.int .i64 (r).kind, .int .i64 (r).num, .int .i64 (r).den, .string (r).text, .slice none 0 0]) (by simp [results, Tryz.results218, go_sem, cc]) rfl ⟨rfl, ?_⟩
                  clear cc ff
                  (repeat refine below_set0 ?_ _ _)
                  exact pb
        · obtain rfl : k = s.size := by omega
          have hdn : s.data.toList.drop s.size = [] := List.drop_eq_nil_of_le (by omega)
          rw [hdn] at hgo
          unfold rdGo at hgo
          have hr := HR.out
          rw [HRR.out, ← hgo] at hr
          simp only [rdEnd] at hr
          have hp : 10 ^ M ≤ 10 ^ 12 := Nat.pow_le_pow_right (by omega) (by omega)
          have hN2 : N < 1000000000000 := by omega
          by_cases hm0 : M = 0
          · rw [if_pos (.inl hm0)] at hr
            have HO : Hid (r = oth s) := hr
            have t1 : ((M : Int) == 0) = true := by simp; omega
            clear hr hgo hp hN hD hD1 hM hm0 HRR HG hdn
            go_wp2_with (go_at_call 228; refine (other_any s _ HS.out).mono ?_; rintro e w1 ⟨rfl, hb1⟩; rw [← HO.out]; obtain ⟨cc, ff, zz, kk⟩ := box_cells k0 hb1; have pb := below_next hb0 hb0.size hb1)
            refine bodyPost_ret (v := .agg #[.int .i64 (r).kind, .int .i64 (r).num, .int .i64 (r).den, .string (r).text, .slice none 0 0]) (by simp [results, Tryz.results218, go_sem, cc]) rfl ⟨rfl, ?_⟩
            clear cc ff
            (repeat refine below_set0 ?_ _ _)
            exact pb
          · have t1 : ((M : Int) == 0) = false := by simp; omega
            by_cases hd0 : 100000 < D
            · rw [if_pos (.inr hd0)] at hr
              have HO : Hid (r = oth s) := hr
              have t2 : (100000 : Int) < (D : Int) := by omega
              clear hr hgo hp hN hD hD1 hM hm0 HRR HG hdn hd0
              go_wp2_with (go_at_call 228; refine (other_any s _ HS.out).mono ?_; rintro e w1 ⟨rfl, hb1⟩; rw [← HO.out]; obtain ⟨cc, ff, zz, kk⟩ := box_cells k0 hb1; have pb := below_next hb0 hb0.size hb1)
              refine bodyPost_ret (v := .agg #[.int .i64 (r).kind, .int .i64 (r).num, .int .i64 (r).den, .string (r).text, .slice none 0 0]) (by simp [results, Tryz.results218, go_sem, cc]) rfl ⟨rfl, ?_⟩
              clear cc ff
              (repeat refine below_set0 ?_ _ _)
              exact pb
            · rw [if_neg (by omega)] at hr
              have t2 : ¬ (100000 : Int) < (D : Int) := by omega
              have HF2 : Hid (r = frc ((N : Int)) (D : Int)) := by simpa [Hid] using hr
              have HB : Hid (N < 1000000000000 ∧ 1 ≤ D ∧ D ≤ 100000) := ⟨hN2, hD1, by omega⟩
              have hwn : wrap64 (-(N : Int)) = -(N : Int) := by unfold wrap64; omega
              clear hr hgo hp hN hD hD1 hM hm0 HRR HG hdn hd0
              go_wp2_with (go_at_call 38; refine (frac_all _ _ _ (by have := HB.out; omega) (by have := HB.out; omega) (by have := HB.out; omega) (by have := HB.out; omega)).mono ?_; rintro e w1 ⟨rfl, hb1⟩; rw [← HF2.out]; obtain ⟨cc, ff, zz, kk⟩ := box_cells k0 hb1; have pb := below_next hb0 hb0.size hb1)
              refine bodyPost_ret (v := .agg #[.int .i64 (r).kind, .int .i64 (r).num, .int .i64 (r).den, .string (r).text, .slice none 0 0]) (by simp [results, Tryz.results218, go_sem, cc]) rfl ⟨rfl, ?_⟩
              clear cc ff
              (repeat refine below_set0 ?_ _ _)
              exact pb
    · clear hfirst
      go_enter Tryz.func218, Tryz.ntmps218
      go_wp2
      rw [HW0.out]
      obtain ⟨R, hR⟩ : ∃ R, R = rdGo (s.data.toList.drop 0) 0 0 1 false := ⟨_, rfl⟩
      have HRR : Hid (rd s = rdEnd s false R) := by
        rw [Hid, hR]; unfold rd; rw [if_neg HF.out]; rfl
      have HG := Lib.hid hR
      clear hR
      go_loop [3, 5, 6, 7, 8, 9, 31, 53] (fun a n m d p _ _ _ => ∃ (k N M D : Nat) (P : Bool), k ≤ s.size ∧ a = .int .i64 k ∧ n = .int .i64 N ∧ m = .int .i64 M ∧ d = .int .i64 D ∧ p = .bool P ∧ M ≤ 12 ∧ N < 10 ^ M ∧ 1 ≤ D ∧ D ≤ 10 ^ M ∧ rdGo (s.data.toList.drop k) N M D P = R) (fun a _ _ _ _ _ _ _ => s.size - (intOf a).toNat)
      case atStart => exact ⟨0, 0, 0, 1, false, hsz, rfl, rfl, rfl, rfl, rfl, by omega, by omega, by omega, by omega, HG.out.symm⟩
      case round =>
        obtain ⟨k, N, M, D, P, hk1, rfl, rfl, rfl, rfl, rfl, hM, hN, hD1, hD, hgo⟩ := hrel
        by_cases hlt : k < s.size
        · exfalso; omega
        · obtain rfl : k = s.size := by omega
          have hdn : s.data.toList.drop s.size = [] := List.drop_eq_nil_of_le (by omega)
          rw [hdn] at hgo
          unfold rdGo at hgo
          have hr := HR.out
          rw [HRR.out, ← hgo] at hr
          simp only [rdEnd] at hr
          have hp : 10 ^ M ≤ 10 ^ 12 := Nat.pow_le_pow_right (by omega) (by omega)
          have hN2 : N < 1000000000000 := by omega
          by_cases hm0 : M = 0
          · rw [if_pos (.inl hm0)] at hr
            have HO : Hid (r = oth s) := hr
            have t1 : ((M : Int) == 0) = true := by simp; omega
            clear hr hgo hp hN hD hD1 hM hm0 HRR HG hdn
            go_wp2_with (go_at_call 228; refine (other_any s _ HS.out).mono ?_; rintro e w1 ⟨rfl, hb1⟩; rw [← HO.out]; obtain ⟨cc, ff, zz, kk⟩ := box_cells k0 hb1; have pb := below_next hb0 hb0.size hb1)
            refine bodyPost_ret (v := .agg #[.int .i64 (r).kind, .int .i64 (r).num, .int .i64 (r).den, .string (r).text, .slice none 0 0]) (by simp [results, Tryz.results218, go_sem, cc]) rfl ⟨rfl, ?_⟩
            clear cc ff
            (repeat refine below_set0 ?_ _ _)
            exact pb
          · have t1 : ((M : Int) == 0) = false := by simp; omega
            by_cases hd0 : 100000 < D
            · rw [if_pos (.inr hd0)] at hr
              have HO : Hid (r = oth s) := hr
              have t2 : (100000 : Int) < (D : Int) := by omega
              clear hr hgo hp hN hD hD1 hM hm0 HRR HG hdn hd0
              go_wp2_with (go_at_call 228; refine (other_any s _ HS.out).mono ?_; rintro e w1 ⟨rfl, hb1⟩; rw [← HO.out]; obtain ⟨cc, ff, zz, kk⟩ := box_cells k0 hb1; have pb := below_next hb0 hb0.size hb1)
              refine bodyPost_ret (v := .agg #[.int .i64 (r).kind, .int .i64 (r).num, .int .i64 (r).den, .string (r).text, .slice none 0 0]) (by simp [results, Tryz.results218, go_sem, cc]) rfl ⟨rfl, ?_⟩
              clear cc ff
              (repeat refine below_set0 ?_ _ _)
              exact pb
            · rw [if_neg (by omega)] at hr
              have t2 : ¬ (100000 : Int) < (D : Int) := by omega
              have HF2 : Hid (r = frc ((N : Int)) (D : Int)) := by simpa [Hid] using hr
              have HB : Hid (N < 1000000000000 ∧ 1 ≤ D ∧ D ≤ 100000) := ⟨hN2, hD1, by omega⟩
              have hwn : wrap64 (-(N : Int)) = -(N : Int) := by unfold wrap64; omega
              clear hr hgo hp hN hD hD1 hM hm0 HRR HG hdn hd0
              go_wp2_with (go_at_call 38; refine (frac_all _ _ _ (by have := HB.out; omega) (by have := HB.out; omega) (by have := HB.out; omega) (by have := HB.out; omega)).mono ?_; rintro e w1 ⟨rfl, hb1⟩; rw [← HF2.out]; obtain ⟨cc, ff, zz, kk⟩ := box_cells k0 hb1; have pb := below_next hb0 hb0.size hb1)
              refine bodyPost_ret (v := .agg #[.int .i64 (r).kind, .int .i64 (r).num, .int .i64 (r).den, .string (r).text, .slice none 0 0]) (by simp [results, Tryz.results218, go_sem, cc]) rfl ⟨rfl, ?_⟩
              clear cc ff
              (repeat refine below_set0 ?_ _ _)
              exact pb

end Go.Proofs.YtopomonencffkaaGreatDoor
