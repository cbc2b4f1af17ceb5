/-
'Same' of an error or a doubt and an error, 'letters' of a text.
-/
import Derived.Test.YtopomonencffkaaGreatDoorReadO
import Derived.Deep.QuietTactic
import Derived.BigQuiet
namespace Go.Proofs.YtopomonencffkaaGreatDoor
open Go.RowKit

set_option maxRecDepth 100000 in
set_option maxHeartbeats 2000000 in
theorem same_err (w : World) :
    Calls Tryz.prog 170 #[.agg #[.int .i64 4, .int .i64 0, .int .i64 0, .string errV, .slice none 0 0], .agg #[.int .i64 4, .int .i64 0, .int .i64 0, .string errV, .slice none 0 0]] w fun e w' => e = .returned (.bool true) ∧ Below w.heap.size w w' := by
  have hu26 := Tryz.underlying34
  go_enter Tryz.func170, Tryz.ntmps170
  go_wp2
  go_loop [5] (fun i => i = .int .i64 0) (fun _ => 0)
  case atStart => rfl
  case round =>
    subst hrel
    go_wp2
    go_ret
    exact ⟨rfl, ((Below.refl w.heap.size w).alloc (Nat.le_refl _) _).alloc (by simp) _⟩

set_option maxRecDepth 100000 in
set_option maxHeartbeats 2000000 in
theorem same_doubt (w : World) :
    Calls Tryz.prog 170 #[.agg #[.int .i64 6, .int .i64 0, .int .i64 0, .string ⟨#[]⟩, .slice none 0 0], .agg #[.int .i64 4, .int .i64 0, .int .i64 0, .string errV, .slice none 0 0]] w fun e w' => e = .returned (.bool false) ∧ Below w.heap.size w w' := by
  have hu26 := Tryz.underlying34
  go_enter Tryz.func170, Tryz.ntmps170
  go_wp2
  go_ret
  exact ⟨rfl, ((Below.refl w.heap.size w).alloc (Nat.le_refl _) _).alloc (by simp) _⟩

set_option maxRecDepth 100000 in
set_option maxHeartbeats 2000000 in
theorem letters_any (s : ByteArray) (w : World) (hs : s.size ≤ 1000000000) :
    Calls Tryz.prog 164 #[.string s] w fun e w' => e = .returned (.bool (wordB s)) ∧ Below w.heap.size w w' := by
  have ho := fun W => other_any s W hs
  have HE : Hid (∀ W, Calls Tryz.prog 40 #[.string ⟨#[35, 86, 65, 76, 85, 69, 33]⟩] W fun e w' => e = .returned (.agg #[.int .i64 4, .int .i64 0, .int .i64 0, .string errV, .slice none 0 0]) ∧ Below W.heap.size W w') := fun W => err_any _ W
  cases hw : wordB s
  · rw [oth_no hw] at ho
    have HO := Lib.hid ho
    clear ho hw
    go_enter Tryz.func164, Tryz.ntmps164
    go_wp2_with (first
      | (go_at_call 228; refine (HO.out _).mono ?_; rintro e w1 ⟨rfl, hb1⟩)
      | (go_at_call 40; refine (HE.out _).mono ?_; rintro e w2 ⟨rfl, hb2⟩; have pb2 := below_next hb1 hb1.size hb2)
      | (go_at_call 170; refine (same_doubt _).mono ?_; rintro e w3 ⟨rfl, hb3⟩; have pb3 := below_next pb2 pb2.size hb3))
    go_ret
    exact ⟨rfl, pb3⟩
  · rw [oth_yes hw] at ho
    have HO := Lib.hid ho
    clear ho hw
    go_enter Tryz.func164, Tryz.ntmps164
    go_wp2_with (first
      | (go_at_call 228; refine (HO.out _).mono ?_; rintro e w1 ⟨rfl, hb1⟩)
      | (go_at_call 40; refine (HE.out _).mono ?_; rintro e w2 ⟨rfl, hb2⟩; have pb2 := below_next hb1 hb1.size hb2)
      | (go_at_call 170; refine (same_err _).mono ?_; rintro e w3 ⟨rfl, hb3⟩; have pb3 := below_next pb2 pb2.size hb3))
    go_ret
    exact ⟨rfl, pb3⟩

end Go.Proofs.YtopomonencffkaaGreatDoor
