/-
'Lower', 'lower', 'month', 'other', 'letters', 'Digits', 'Plain', 'Read' and 'numeric' of the reference, at any text: what they answer does not hang on the world.
-/
import Derived.Test.YtkglbccdiofnkaaGreatDoorTextl
import Derived.Test.YtkglbccdiofnkaaGreatDoorMade
import Derived.Test.YtkglbccdiofnkaaGreatDoorWhole
import Derived.Laws.IdiomStrings
import Derived.Deep.RegionHeld3
import Derived.WalkLawsBesides
import Derived.MapKept
namespace Go.Proofs.YtkglbccdiofnkaaGreatDoor
open Go.RowKit

/-- A small letter for a great one. -/
def lowB (x : UInt8) : UInt8 := if 65 ≤ x.toNat ∧ x.toNat ≤ 90 then UInt8.ofNat (x.toNat + 32) else x

theorem Lower_any (x : UInt8) (w : World) :
    Calls Tryz.prog 232 #[.int .u8 (x.toNat : Int)] w fun e w' => e = .returned (.int .u8 ((lowB x).toNat : Int)) ∧ w = w' := by
  have hx := x.toNat_lt
  by_cases h1 : (65 : Int) ≤ (x.toNat : Int)
  · by_cases h2 : (x.toNat : Int) ≤ 90
    · have e : Hid (((lowB x).toNat : Int) = (x.toNat : Int) + 32) := by
        rw [Hid]; unfold lowB
        rw [if_pos (by omega)]
        simp
        omega
      have hw : Hid ((x.toNat : Int) + 32 < 256) := by rw [Hid]; omega
      go_enter Tryz.func232, Tryz.ntmps232
      go_wp2
      go_ret
      exact ⟨by rw [e.out]; rfl, rfl⟩
    · have e : Hid (lowB x = x) := by rw [Hid]; unfold lowB; rw [if_neg (by omega)]
      go_enter Tryz.func232, Tryz.ntmps232
      go_wp2
      go_ret
      exact ⟨by rw [e.out]; rfl, rfl⟩
  · have e : Hid (lowB x = x) := by rw [Hid]; unfold lowB; rw [if_neg (by omega)]
    go_enter Tryz.func232, Tryz.ntmps232
    go_wp2
    go_ret
    exact ⟨by rw [e.out]; rfl, rfl⟩

/-- A text in small letters. -/
def lowS (s : ByteArray) : ByteArray := ⟨(s.data.toList.map lowB).toArray⟩
theorem lowS_size (s : ByteArray) : (lowS s).size = s.size := by
  show (s.data.toList.map lowB).toArray.size = s.data.size
  simp

/-- The bytes at the block g. -/
def Bys (w : World) (g : Nat) (l : List UInt8) : Prop := g < w.heap.size ∧ ∀ j b, l[j]? = some b → w.cell? ⟨g, j, none⟩ = some (.int .u8 (b.toNat : Int)) ∧ w.frozen? ⟨g, j, none⟩ = false

theorem Bys.set {w : World} {g k : Nat} {l : List UInt8} (h : Bys w g l) (x : UInt8) : Bys (w.setCell ⟨g, k, none⟩ (.int .u8 (x.toNat : Int))) g (l.set k x) := by
  refine ⟨by simp [World.setCell, h.1], fun j b hb => ⟨?_, ?_⟩⟩
  · by_cases hk : k = j
    · subst hk
      rw [List.getElem?_set_self'] at hb
      cases hl : l[k]? with
      | none => rw [hl] at hb; simp at hb
      | some y =>
        rw [hl] at hb
        have : x = b := by simpa using hb
        subst this
        exact World.cell?_setCell_same _ _ _ (h.2 k y hl).1
    · rw [List.getElem?_set_ne hk] at hb
      rw [World.cell?_setCell_other _ _ _ _ (by intro e; injection e with e1 e2; exact hk e2)]
      exact (h.2 j b hb).1
  · rw [World.frozen?_setCell]
    by_cases hk : k = j
    · subst hk
      rw [List.getElem?_set_self'] at hb
      cases hl : l[k]? with
      | none => rw [hl] at hb; simp at hb
      | some y => exact (h.2 k y hl).2
    · rw [List.getElem?_set_ne hk] at hb
      exact (h.2 j b hb).2

theorem bys_new (w : World) (s : ByteArray) (cap : Nat) (e : TypeId) (fr : Nat × Nat) (hf : fr.1 = (bytesRow s cap).size) : Bys (w.alloc (.cells (bytesRow s cap) e fr)) w.heap.size s.data.toList := by
  refine ⟨by simp, fun j b hb => ?_⟩
  have hj : j < s.data.size := by
    have := (List.getElem?_eq_some_iff.1 hb).1
    simpa using this
  have hbj : s.data[j] = b := by
    have h2 : s.data.toList[j]? = some s.data[j] := by simp [Array.getElem?_eq_getElem hj]
    rw [h2] at hb
    injection hb
  refine ⟨?_, ?_⟩
  · rw [World.cell?_alloc_mark, bytesRow_at s cap j hj, hbj]
  · obtain ⟨a, b⟩ := fr
    rw [World.frozen?_alloc_mark]
    have hs : j < (bytesRow s cap).size := by unfold bytesRow; rw [Array.size_append, Array.size_map]; omega
    have : a = (bytesRow s cap).size := hf
    simp
    omega

set_option maxRecDepth 100000 in
set_option maxHeartbeats 1000000 in
theorem lower_any (s : ByteArray) (w : World) (hs : s.size ≤ 1000000000) :
    Calls Tryz.prog 209 #[.string s] w fun e w' => e = .returned (.string (lowS s)) ∧ Below w.heap.size w w' := by
  have hlen : s.data.toList.length = s.size := Array.length_toList
  have hconv := run_bytes_of_string (P := Tryz.prog) w 9 100 5 s Tryz.underlying9 Tryz.underlying100 Tryz.underlying5
  obtain ⟨cap, hcap⟩ : ∃ cap, cap = grownCap w s.size 0 5 := ⟨_, rfl⟩
  rw [← hcap] at hconv
  obtain ⟨w0, hw0⟩ : ∃ w0, w0 = w.drew.alloc (.cells (bytesRow s cap) 5 ((bytesRow s cap).size, (bytesRow s cap).size + 1)) := ⟨_, rfl⟩
  rw [← hw0] at hconv
  have hB : Bys w0 w.heap.size s.data.toList := by rw [hw0]; exact bys_new w.drew s cap _ _ rfl
  have hb0 : Below w.heap.size w w0 := by rw [hw0]; exact (Below.refl _ _).drew.alloc (Nat.le_refl _) _
  obtain ⟨n, hn⟩ : ∃ n, n = w.heap.size := ⟨_, rfl⟩
  rw [← hn] at hconv hB
  have HN := Lib.hid hn
  clear hw0 hcap hn
  go_enter Tryz.func209, Tryz.ntmps209
  go_wp2
  go_loopw [4] (fun i wr => ∃ k : Nat, k ≤ s.size ∧ i = .int .i64 k ∧ Bys wr n ((s.data.toList.take k).map lowB ++ s.data.toList.drop k) ∧ Below w.heap.size w wr) (fun i _ => s.size - (intOf i).toNat)
  case atStart => exact ⟨0, Nat.zero_le _, rfl, by simpa using hB, hb0⟩
  case round =>
    obtain ⟨k, hk1, rfl, hbys, hb⟩ := hrel
    by_cases hlt : k < s.size
    · obtain ⟨x, hxk⟩ : ∃ x, s.data.toList[k]? = some x := ⟨_, List.getElem?_eq_getElem (by omega)⟩
      have hl1 : ((s.data.toList.take k).map lowB).length = k := by rw [List.length_map, List.length_take]; omega
      have hget : ((s.data.toList.take k).map lowB ++ s.data.toList.drop k)[k]? = some x := by
        rw [List.getElem?_append_right (by omega), hl1, Nat.sub_self, List.getElem?_drop]; simpa using hxk
      obtain ⟨hc, hf⟩ := hbys.2 k x hget
      have hz := hbys.1
      have HX : Hid ((s.data.toList.take (k + 1)).map lowB ++ s.data.toList.drop (k + 1) = ((s.data.toList.take k).map lowB ++ s.data.toList.drop k).set k (lowB x)) := by
        have hd : s.data.toList.drop k = x :: s.data.toList.drop (k + 1) := by
          rw [List.drop_eq_getElem_cons (by omega)]
          congr 1
          have := List.getElem?_eq_some_iff.1 hxk
          exact this.2
        rw [Hid, hd, List.set_append_right _ _ (by omega), hl1, Nat.sub_self, List.set_cons_zero, List.take_add_one, hxk]
        simp
      have HB := Lib.hid hbys
      have HQ : Hid (k < s.size) := hlt
      clear hxk hl1 hget hbys
      go_wp2_with (go_at_call 232; refine (Lower_any x _).mono ?_; rintro e w1 ⟨rfl, rfl⟩)
      have hlt := HQ.out
      go_roundw
      case rel => exact ⟨k + 1, by omega, by go_num, by rw [HX.out]; exact HB.out.set _, hb.setCell (by rw [HN.out]; exact Nat.le_refl _) _⟩
      case measure => simp [intOf]; omega
    · obtain rfl : k = s.size := by omega
      have hfull : (s.data.toList.take s.size).map lowB ++ s.data.toList.drop s.size = s.data.toList.map lowB := by
        rw [← hlen, List.take_length, List.drop_length, List.append_nil]
      rw [hfull] at hbys
      have hback := run_convert_bytes_back (P := Tryz.prog) wr 100 9 5 ⟨n, 0, none⟩ cap (s.data.toList.map lowB) Tryz.underlying100 Tryz.underlying5 Tryz.underlying9 (fun j hj => by
        have ha : (⟨n, 0, none⟩ : Addr).add j = ⟨n, j, none⟩ := by unfold Addr.add; split <;> simp_all
        rw [ha]
        exact (hbys.2 j _ (List.getElem?_eq_getElem hj)).1)
      rw [List.length_map, hlen] at hback
      clear hbys hfull
      go_wp2
      go_ret
      exact ⟨rfl, hb⟩

end Go.Proofs.YtkglbccdiofnkaaGreatDoor
