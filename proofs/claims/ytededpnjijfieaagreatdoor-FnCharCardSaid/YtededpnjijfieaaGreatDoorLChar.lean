/-
The law FnChar: it returns true, whatever the number.
-/
import Derived.Test.YtededpnjijfieaaGreatDoorDoor
import Derived.Test.YtededpnjijfieaaGreatDoorCallChar
import Derived.Test.YtededpnjijfieaaGreatDoorTChar
namespace Go.Proofs.YtededpnjijfieaaGreatDoor
open Go.RowKit Go.Fl

theorem char_agrees (n : Int) (v : Value) (w : World) (hr : Row w w.heap.size 5 v [FV.list (fr (16 * n))]) :
    Calls Tryz.prog 11 #[.func (.func 14) #[] #[], .string ⟨#[67, 72, 65, 82]⟩, v] w fun e w' => e = .returned (.bool true) ∧ Below w.heap.size w w' := by
  rcases fr_whole n with ⟨e, b1, b2⟩ | e
  · rw [e] at hr
    refine agrees_flat _ _ [⟨1, n, 1, ⟨#[]⟩⟩] (rChar n) v w hr (by simpa using whole_ok n b1 b2) (by simp) (rChar_ok n b1 b2) (fun W hW => call_Char n v W ((hr.below hW).more hW.size) b1 b2) enter_CHAR ?_
    intro _ h6 W v' hR
    exact impl_CHAR [⟨1, n, 1, ⟨#[]⟩⟩] (rChar n) v' W hR (by simpa using whole_ok n b1 b2) (by simp) fun W f l es hI => tells_Char n l es f W b1 b2 h6 hI
  · rw [e] at hr
    exact agrees_flat _ _ [⟨6, 0, 0, ⟨#[]⟩⟩] ⟨6, 0, 0, ⟨#[]⟩⟩ v w hr (by simpa using doubt_ok) (by simp) doubt_ok (fun W hW => call_Char_no v W ((hr.below hW).more hW.size)) enter_CHAR (fun hu => by simp [anyUnsure] at hu)

set_option maxRecDepth 100000 in
theorem law_Char (n : Int) (w : World) :
    Calls Tryz.prog 4 #[.int .i64 n] w fun e w' => e = .returned (.bool true) ∧ Below w.heap.size w w' := by
  go_enter Tryz.func4, Tryz.ntmps4
  go_wp2_with (first
    | (go_at_call 15; refine (argWhole_any _ _).mono ?_; rintro e w1 ⟨rfl, hb1⟩)
    | (go_at_call 11; refine (char_agrees n _ _ (Row.lit1 _ _ (FV.list (fr (16 * n))) _ rfl)).mono ?_; rintro e w2 ⟨rfl, hb2⟩))
  go_ret
  exact ⟨rfl, hb1.trans ((below_one hb2).mono hb1.size)⟩

end Go.Proofs.YtededpnjijfieaaGreatDoor
