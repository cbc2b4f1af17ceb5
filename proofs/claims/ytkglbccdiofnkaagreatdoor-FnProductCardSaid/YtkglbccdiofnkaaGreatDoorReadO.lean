/-
'other' and 'letters' of the reference, at any text.
-/
import Derived.Test.YtkglbccdiofnkaaGreatDoorMonth
namespace Go.Proofs.YtkglbccdiofnkaaGreatDoor
open Go.RowKit

/-- The name of the error of a wrong value. -/
def errV : ByteArray := ⟨#[35, 86, 65, 76, 85, 69, 33]⟩
def lowLetter (x : UInt8) : Bool := decide (97 ≤ (lowB x).toNat) && decide ((lowB x).toNat ≤ 122)
/-- Words that might be read as more than words. -/
def oddWords : List (List UInt8) := [[], [101], [110, 97, 110], [105, 110, 102], [105, 110, 102, 105, 110, 105, 116, 121], [116, 114, 117, 101], [102, 97, 108, 115, 101], [97, 109], [112, 109], [97], [112]]
/-- A text of letters that spells nothing like a number. -/
def wordB (s : ByteArray) : Bool := s.data.toList.all lowLetter && (!(oddWords.any fun m => (lowS s).toList == m) && (decide (2 ≤ s.size) && !monthB (lowS s)))
def oth (s : ByteArray) : FV := if wordB s then ⟨4, 0, 0, errV⟩ else ⟨6, 0, 0, ⟨#[]⟩⟩
theorem oth_yes {s : ByteArray} (h : wordB s = true) : oth s = ⟨4, 0, 0, errV⟩ := by unfold oth; rw [if_pos h]
theorem oth_no {s : ByteArray} (h : wordB s = false) : oth s = ⟨6, 0, 0, ⟨#[]⟩⟩ := by unfold oth; rw [if_neg (by simp [h])]

set_option maxRecDepth 100000 in
set_option maxHeartbeats 4000000 in
theorem other_any (s : ByteArray) (w : World) (hs : s.size ≤ 1000000000) :
    Calls Tryz.prog 261 #[.string s] w fun e w' => e = .returned (.agg #[.int .i64 (oth s).kind, .int .i64 (oth s).num, .int .i64 (oth s).den, .string (oth s).text, .slice none 0 0]) ∧ Below w.heap.size w w' := by
  have hlen : s.data.toList.length = s.size := Array.length_toList
  obtain ⟨w0, hw0⟩ : ∃ w0 : World, w0 = w.alloc (.cells #[.int .i64 0, .int .i64 0, .int .i64 0, .string ⟨#[]⟩, .slice none 0 0] 31) := ⟨_, rfl⟩
  have hb0 : Below w.heap.size w w0 := by rw [hw0]; exact (Below.refl _ _).alloc (Nat.le_refl _) _
  have k0 : w0.heap[w.heap.size]? = some (.cells #[.int .i64 0, .int .i64 0, .int .i64 0, .string ⟨#[]⟩, .slice none 0 0] 31) := by rw [hw0]; exact heap_new1 _ _
  have HW0 := Lib.hid hw0.symm
  have HS : Hid (s.size ≤ 1000000000) := hs
  clear hw0
  have hu26 := Tryz.underlying31
  obtain ⟨r, hr⟩ : ∃ r, r = oth s := ⟨_, rfl⟩
  rw [← hr]
  have HR := Lib.hid hr
  clear hr
  go_enter Tryz.func261, Tryz.ntmps261
  go_wp2
  rw [HW0.out]
  go_loop [3] (fun i => ∃ k : Nat, k ≤ s.size ∧ i = .int .i64 k ∧ (s.data.toList.take k).all lowLetter = true) (fun i => s.size - (intOf i).toNat)
  case atStart => exact ⟨0, Nat.zero_le _, rfl, rfl⟩
  case round =>
    obtain ⟨k, hk1, rfl, hall⟩ := hrel
    have HA := Lib.hid hall
    clear hall
    by_cases hlt : k < s.size
    · obtain ⟨x, hx⟩ : ∃ x : UInt8, s[k] = x := ⟨_, rfl⟩
      have hxl : s.data.toList[k]? = some x := by rw [← hx]; exact Lib.data_getElem? s k hlt
      have HX : Hid ((s.data.toList.take (k + 1)).all lowLetter = ((s.data.toList.take k).all lowLetter && lowLetter x)) := by rw [Hid, List.take_add_one, hxl]; simp
      have HM : Hid (x ∈ s.data.toList) := List.mem_of_getElem? hxl
      have HK : Hid (k < s.size) := hlt
      have hkz : (k : Int) < (s.size : Int) := by omega
      clear hxl
      obtain ⟨y, hy⟩ : ∃ y, y = lowB x := ⟨_, rfl⟩
      have HY := Lib.hid hy
      by_cases hc : lowLetter x = true
      · have hc' : 97 ≤ y.toNat ∧ y.toNat ≤ 122 := by rw [hy]; simpa [lowLetter] using hc
        have h1 : ¬ (y.toNat : Int) < 97 := by omega
        have h2 : ¬ (122 : Int) < (y.toNat : Int) := by omega
        have HC := Lib.hid hc
        clear hc hc' hy
        go_wp2_with (go_at_call 232; refine (Lower_any x _).mono ?_; rintro e w1 ⟨rfl, rfl⟩; rw [← HY.out])
        have hlt := HK.out
        go_round
        case rel => exact ⟨k + 1, by omega, by go_num, by rw [HX.out, HA.out, HC.out]; rfl⟩
        case measure => simp [intOf]; omega
      · have hw : Hid (wordB s = false) := by
          have : s.data.toList.all lowLetter = false := by rw [List.all_eq_false]; exact ⟨x, HM.out, by simpa using hc⟩
          rw [Hid, wordB, this]; rfl
        have hr := HR.out
        rw [oth_no hw.out] at hr
        subst hr
        by_cases h1 : (y.toNat : Int) < 97
        · clear hc hy
          go_wp2_with (first
            | (go_at_call 232; refine (Lower_any x _).mono ?_; rintro e w1 ⟨rfl, rfl⟩; rw [← HY.out])
            | (go_at_call 34; refine (doubt_any _).mono ?_; rintro e w1 ⟨rfl, hb1⟩; obtain ⟨c1, f1, z1, k1⟩ := box_cells k0 hb1))
          refine bodyPost_ret (v := .agg #[.int .i64 6, .int .i64 0, .int .i64 0, .string ⟨#[]⟩, .slice none 0 0]) (by simp [results, Tryz.results261, go_sem, c1]) rfl ⟨rfl, ?_⟩
          have pb := hb0.trans (hb1.mono hb0.size)
          clear c1 f1
          (repeat refine below_set0 ?_ _ _)
          exact pb
        · have h2 : (122 : Int) < (y.toNat : Int) := by
            rw [hy] at h1 ⊢
            simp [lowLetter] at hc
            omega
          clear hc hy
          go_wp2_with (first
            | (go_at_call 232; refine (Lower_any x _).mono ?_; rintro e w1 ⟨rfl, rfl⟩; rw [← HY.out])
            | (go_at_call 34; refine (doubt_any _).mono ?_; rintro e w1 ⟨rfl, hb1⟩; obtain ⟨c1, f1, z1, k1⟩ := box_cells k0 hb1))
          refine bodyPost_ret (v := .agg #[.int .i64 6, .int .i64 0, .int .i64 0, .string ⟨#[]⟩, .slice none 0 0]) (by simp [results, Tryz.results261, go_sem, c1]) rfl ⟨rfl, ?_⟩
          have pb := hb0.trans (hb1.mono hb0.size)
          clear c1 f1
          (repeat refine below_set0 ?_ _ _)
          exact pb
    · obtain rfl : k = s.size := by omega
      have hall : s.data.toList.all lowLetter = true := by have := HA.out; rwa [← hlen, List.take_length] at this
      have HALL := Lib.hid hall
      clear hall hlt
      have pb := hb0
      have kk := k0
      obtain ⟨t, ht⟩ : ∃ t, t = lowS s := ⟨_, rfl⟩
      have hts : Hid (t.size ≤ 1000000000) := by rw [Hid, ht, lowS_size]; exact HS.out
      have HT := Lib.hid ht
      cases hm : monthB t <;>
      · have HMO := Lib.hid hm
        have hw : Hid (wordB s = (!(oddWords.any fun m => t.toList == m) && (decide (2 ≤ (s.size : Int)) && !monthB t))) := by
          rw [Hid, wordB, HALL.out, Bool.true_and, ← HT.out]
          congr 2
          apply decide_eq_decide.2
          omega
        have hr := HR.out
        have hr2 : Hid (r = if wordB s then (⟨4, 0, 0, errV⟩ : FV) else ⟨6, 0, 0, ⟨#[]⟩⟩) := hr
        clear ht hm hr
        go_wp2_with (first
          | (go_at_call 209; refine (lower_any s _ HS.out).mono ?_; rintro e w1 ⟨rfl, hb1⟩; rw [← HT.out]; obtain ⟨cc, ff, zz, kk⟩ := box_cells kk hb1; have pb := below_next pb pb.size hb1)
          | (go_at_call 281; refine (month_any t _ hts.out).mono ?_; rintro e w2 ⟨rfl, rfl⟩; rw [HMO.out])
          | (go_at_call 48; refine (err_any _ _).mono ?_; rintro e w3 ⟨rfl, hb3⟩; obtain ⟨cc, ff, zz, kk⟩ := box_cells kk hb3; have pb := below_next pb pb.size hb3)
          | (go_at_call 34; refine (doubt_any _).mono ?_; rintro e w3 ⟨rfl, hb3⟩; obtain ⟨cc, ff, zz, kk⟩ := box_cells kk hb3; have pb := below_next pb pb.size hb3))
        all_goals first
          | (refine bodyPost_ret (v := .agg #[.int .i64 6, .int .i64 0, .int .i64 0, .string ⟨#[]⟩, .slice none 0 0]) ?_ rfl ⟨?_, ?_⟩
             · (simp [results, Tryz.results261, go_sem, cc]; done)
             · have hc : wordB s = false := by
                 rw [hw.out, HMO.out]
                 clear hw hr2 HR HMO
                 simp_all [oddWords]
                 done
               rw [hr2.out, hc]
               rfl
             · clear cc ff
               (repeat refine below_set0 ?_ _ _)
               exact pb)
          | (refine bodyPost_ret (v := .agg #[.int .i64 4, .int .i64 0, .int .i64 0, .string errV, .slice none 0 0]) ?_ rfl ⟨?_, ?_⟩
             · (simp [results, Tryz.results261, go_sem, cc, errV]; done)
             · have hc : wordB s = true := by
                 rw [hw.out, HMO.out]
                 clear hw hr2 HR HMO
                 simp_all [oddWords]
                 done
               rw [hr2.out, hc]
               rfl
             · clear cc ff
               (repeat refine below_set0 ?_ _ _)
               exact pb)

end Go.Proofs.YtkglbccdiofnkaaGreatDoor
