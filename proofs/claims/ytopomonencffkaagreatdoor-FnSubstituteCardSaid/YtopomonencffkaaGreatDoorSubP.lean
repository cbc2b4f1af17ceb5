/-
Places of a text in another one, and the text with these replaced: plain facts.
-/
import Derived.Test.YtopomonencffkaaGreatDoorTexts
import Derived.MapKept
namespace Go.Proofs.YtopomonencffkaaGreatDoor
open Go.RowKit

/-- The first place from i on at which p is in s. -/
def idxGo (p s : ByteArray) : Nat → Nat → Option Nat
  | 0, _ => none
  | f + 1, i => if i + p.size ≤ s.size then (if s.extract i (i + p.size) = p then some i else idxGo p s f (i + 1)) else none
def idx (p s : ByteArray) (i : Nat) : Option Nat := idxGo p s (s.size + 1 - i) i

theorem idx_step {p s : ByteArray} {i : Nat} (h : i + p.size ≤ s.size) : idx p s i = if s.extract i (i + p.size) = p then some i else idx p s (i + 1) := by
  unfold idx
  rw [show s.size + 1 - i = (s.size + 1 - (i + 1)) + 1 by omega, idxGo, if_pos h]
theorem idx_end {p s : ByteArray} {i : Nat} (h : ¬ i + p.size ≤ s.size) : idx p s i = none := by
  unfold idx
  cases s.size + 1 - i with
  | zero => rfl
  | succ f => rw [idxGo, if_neg h]

theorem idxGo_some (p s : ByteArray) : ∀ (f i k : Nat), idxGo p s f i = some k → i ≤ k ∧ k + p.size ≤ s.size ∧ s.extract k (k + p.size) = p := by
  intro f
  induction f with
  | zero => intro i k h; simp [idxGo] at h
  | succ f ih =>
    intro i k h
    rw [idxGo] at h
    split at h
    · split at h
      · injection h with h
        subst h
        exact ⟨Nat.le_refl _, by assumption, by assumption⟩
      · have := ih (i + 1) k h
        exact ⟨by omega, this.2⟩
    · cases h
theorem idx_some {p s : ByteArray} {i k : Nat} (h : idx p s i = some k) : i ≤ k ∧ k + p.size ≤ s.size ∧ s.extract k (k + p.size) = p := idxGo_some p s _ i k h

/-- The place in the rest of a text. -/
theorem idx_rest (p s : ByteArray) (last : Nat) (hl : last ≤ s.size) : ∀ (f i : Nat), s.size - last + 1 - i = f → idx p (s.extract last s.size) i = (idx p s (last + i)).map (· - last) := by
  have hsz : (s.extract last s.size).size = s.size - last := by simp
  intro f
  induction f with
  | zero =>
    intro i h
    by_cases h1 : i + p.size ≤ (s.extract last s.size).size
    · omega
    · rw [idx_end h1, idx_end (by omega)]
      rfl
  | succ f ih =>
    intro i h
    by_cases h1 : i + p.size ≤ (s.extract last s.size).size
    · have h2 : last + i + p.size ≤ s.size := by omega
      rw [idx_step h1, idx_step h2]
      have e : (s.extract last s.size).extract i (i + p.size) = s.extract (last + i) (last + i + p.size) := by
        rw [ByteArray.extract_extract]
        congr 1
        omega
      rw [e]
      by_cases h3 : s.extract (last + i) (last + i + p.size) = p
      · rw [if_pos h3, if_pos h3, Option.map_some]
        congr 1
        omega
      · rw [if_neg h3, if_neg h3, ih (i + 1) (by omega)]
        rfl
    · rw [idx_end h1, idx_end (by omega)]
      rfl

/-- s with p replaced by q: everywhere, or at one place alone. -/
def subGo (s p q : ByteArray) (only : Nat) : Nat → ByteArray → Nat → Nat → ByteArray
  | 0, out, last, _ => out ++ s.extract last s.size
  | f + 1, out, last, many => match idx p s last with
    | none => out ++ s.extract last s.size
    | some k => subGo s p q only f (out ++ s.extract last k ++ (if only = 0 ∨ many + 1 = only then q else p)) (k + p.size) (many + 1)

/-- More rounds than there are places change nothing. -/
theorem subGo_more (s p q : ByteArray) (only : Nat) (hp : 0 < p.size) : ∀ (f g : Nat) (out : ByteArray) (last many : Nat), s.size + 1 - last ≤ f → f ≤ g → subGo s p q only g out last many = subGo s p q only f out last many := by
  intro f
  induction f with
  | zero =>
    intro g out last many h1 _
    have hn : idx p s last = none := idx_end (by omega)
    cases g with
    | zero => rfl
    | succ g => rw [subGo, subGo, hn]
  | succ f ih =>
    intro g out last many h1 h2
    cases g with
    | zero => omega
    | succ g =>
      rw [subGo, subGo]
      cases hi : idx p s last with
      | none => rfl
      | some k =>
        have hk := idx_some hi
        exact ih g _ _ _ (by omega) (by omega)

/-- What is still to come from a place on. -/
def subF (s p q : ByteArray) (only : Nat) (out : ByteArray) (last many : Nat) : ByteArray := subGo s p q only (s.size + 1 - last) out last many
/-- The whole text. -/
def sub (s p q : ByteArray) (only : Nat) : ByteArray := subF s p q only ⟨#[]⟩ 0 0

theorem subF_none {s p q : ByteArray} {only : Nat} {out : ByteArray} {last many : Nat} (h : idx p s last = none) : subF s p q only out last many = out ++ s.extract last s.size := by
  unfold subF
  cases s.size + 1 - last with
  | zero => rfl
  | succ f => rw [subGo, h]
theorem subF_some {s p q : ByteArray} {only : Nat} {out : ByteArray} {last many k : Nat} (hp : 0 < p.size) (h : idx p s last = some k) :
    subF s p q only out last many = subF s p q only (out ++ s.extract last k ++ (if only = 0 ∨ many + 1 = only then q else p)) (k + p.size) (many + 1) := by
  have hk := idx_some h
  unfold subF
  rw [show s.size + 1 - last = (s.size - last) + 1 by omega, subGo, h]
  exact subGo_more s p q only hp _ _ _ _ _ (by omega) (by omega)

theorem subGo_size (s p q : ByteArray) (only : Nat) : ∀ (f : Nat) (out : ByteArray) (last many : Nat), out.size ≤ (subGo s p q only f out last many).size := by
  intro f
  induction f with
  | zero => intro out last many; rw [subGo, ByteArray.size_append]; omega
  | succ f ih =>
    intro out last many
    rw [subGo]
    split
    · rw [ByteArray.size_append]; omega
    · refine Nat.le_trans ?_ (ih _ _ _)
      rw [ByteArray.size_append, ByteArray.size_append]
      omega
theorem subF_size (s p q : ByteArray) (only : Nat) (out : ByteArray) (last many : Nat) : out.size ≤ (subF s p q only out last many).size := subGo_size s p q only _ out last many

theorem extract_two (s : ByteArray) {a b c : Nat} (h1 : a ≤ b) (h2 : b ≤ c) : s.extract a b ++ s.extract b c = s.extract a c := by
  rw [ByteArray.extract_append_extract, Nat.min_eq_left h1, Nat.max_eq_right h2]

/-- Behind the place that was meant nothing is replaced any more. -/
theorem sub_past (s p q : ByteArray) (only : Nat) (hp : 0 < p.size) (h0 : only ≠ 0) : ∀ (f : Nat) (out : ByteArray) (last many : Nat), s.size + 1 - last = f → only ≤ many → subF s p q only out last many = out ++ s.extract last s.size := by
  intro f
  induction f using Nat.strongRecOn with
  | ind f ih =>
    intro out last many hf hm
    cases hi : idx p s last with
    | none => exact subF_none hi
    | some k =>
      have hk := idx_some hi
      rw [subF_some hp hi, if_neg (by omega), ih (s.size + 1 - (k + p.size)) (by omega) _ _ _ rfl (by omega)]
      rw [ByteArray.append_assoc, ByteArray.append_assoc]
      congr 1
      conv => lhs; rw [show p ++ s.extract (k + p.size) s.size = s.extract k (k + p.size) ++ s.extract (k + p.size) s.size by rw [hk.2.2]]
      rw [extract_two s (by omega) (by omega), extract_two s hk.1 (by omega)]
/-- The place that was meant. -/
theorem sub_hit {s p q : ByteArray} {only last many k : Nat} (hp : 0 < p.size) (h : idx p s last = some k) (hm : many + 1 = only) :
    subF s p q only (s.extract 0 last) last many = s.extract 0 k ++ q ++ s.extract (k + p.size) s.size := by
  have hk := idx_some h
  rw [subF_some hp h, if_pos (.inr hm), extract_two s (Nat.zero_le _) hk.1]
  exact sub_past s p q only hp (by omega) _ _ _ _ rfl (by omega)
/-- A place before it. -/
theorem sub_miss {s p q : ByteArray} {only last many k : Nat} (hp : 0 < p.size) (h : idx p s last = some k) (hm : many + 1 < only) :
    subF s p q only (s.extract 0 last) last many = subF s p q only (s.extract 0 (k + p.size)) (k + p.size) (many + 1) := by
  have hk := idx_some h
  rw [subF_some hp h, if_neg (by omega), extract_two s (Nat.zero_le _) hk.1]
  congr 1
  conv => lhs; rw [show s.extract 0 k ++ p = s.extract 0 k ++ s.extract k (k + p.size) by rw [hk.2.2]]
  exact extract_two s (Nat.zero_le _) (by omega)
/-- There is none. -/
theorem sub_gone {s p q : ByteArray} {only last many : Nat} (hl : last ≤ s.size) (h : idx p s last = none) : subF s p q only (s.extract 0 last) last many = s := by
  rw [subF_none h, extract_two s (Nat.zero_le _) hl, ByteArray.extract_zero_size]
/-- The replaced text is no longer than so. -/
theorem idx_pos {p s : ByteArray} {last k : Nat} (hp : 0 < p.size) (h : idx p s last = some k) : last < k + p.size := by
  have := idx_some h
  omega

theorem bytes_ne {a b : ByteArray} (h : ¬ a = b) : (a.toList == b.toList) = false := by
  rw [← Go.beq_toListBytes]
  cases h2 : (a == b)
  · rfl
  · exact absurd ((Go.MapKept.bytes_beq _ _).1 h2) h

/-- A place as the code tells it: -1 for none. -/
def idxI (o : Option Nat) : Int := match o with
  | none => -1
  | some k => k

set_option maxRecDepth 100000 in
set_option maxHeartbeats 1000000 in
theorem at_any (p s : ByteArray) (i : Nat) (w : World) (hi : i ≤ 1000000000) (hp : p.size ≤ 1000000000) (hs : s.size ≤ 1000000000) :
    Calls Tryz.prog 216 #[.string p, .string s, .int .i64 (i : Int)] w fun e w' => e = .returned (.int .i64 (idxI (idx p s i))) ∧ w = w' := by
  obtain ⟨R, hR⟩ : ∃ R, R = idx p s i := ⟨_, rfl⟩
  rw [← hR]
  have HR0 := Lib.hid hR
  clear hR
  go_enter Tryz.func216, Tryz.ntmps216
  go_wp2
  go_loop [7] (fun x => ∃ k : Nat, k ≤ 1000000001 ∧ (k ≤ i ∨ k ≤ s.size + 1) ∧ x = .int .i64 k ∧ idx p s k = R) (fun x => s.size + 1 - (intOf x).toNat)
  case atStart => exact ⟨i, by omega, .inl (Nat.le_refl _), rfl, HR0.out.symm⟩
  case round =>
    obtain ⟨k, hk1, hk2, rfl, hidx⟩ := hrel
    by_cases hle : k + p.size ≤ s.size
    · rw [idx_step hle] at hidx
      have h1 : (k : Int) + (p.size : Int) ≤ (s.size : Int) := by omega
      have h2 : (0 : Int) ≤ (k : Int) := by omega
      have h3 : (k : Int) ≤ (k : Int) + (p.size : Int) := by omega
      have hw : wrap64 ((k : Int) + (p.size : Int)) = ((k + p.size : Nat) : Int) := by unfold wrap64; omega
      have HL : Hid (k + p.size ≤ s.size) := hle
      by_cases he : s.extract k (k + p.size) = p
      · rw [if_pos he] at hidx
        have HI := Lib.hid hidx
        clear hidx
        go_wp2
        go_ret
        exact ⟨by rw [← HI.out]; rfl, rfl⟩
      · rw [if_neg he] at hidx
        have HI := Lib.hid hidx
        have he2 := bytes_ne he
        clear hidx
        go_wp2
        have hle := HL.out
        go_round
        case rel => exact ⟨k + 1, by omega, .inr (by omega), by go_num, HI.out⟩
        case measure => simp [intOf]; omega
    · rw [idx_end hle] at hidx
      have h1 : ¬ (k : Int) + (p.size : Int) ≤ (s.size : Int) := by omega
      have hw : wrap64 ((k : Int) + (p.size : Int)) = (k : Int) + (p.size : Int) := by unfold wrap64; omega
      have HI := Lib.hid hidx
      clear hidx hle
      go_wp2
      go_ret
      exact ⟨by rw [← HI.out]; rfl, rfl⟩

end Go.Proofs.YtopomonencffkaaGreatDoor
