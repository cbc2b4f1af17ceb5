/-
The law FnFact: it returns true, whatever the number.
-/
import Derived.Test.YtededpnjijfieaaGreatDoorDoor
import Derived.Test.YtededpnjijfieaaGreatDoorCallFact
import Derived.Test.YtededpnjijfieaaGreatDoorTFact
namespace Go.Proofs.YtededpnjijfieaaGreatDoor
open Go.RowKit Go.Fl

theorem fact_agrees (n : Int) (v : Value) (w : World) (hr : Row w w.heap.size 5 v [FV.list (fr (16 * n))]) :
    Calls Tryz.prog 11 #[.func (.func 16) #[] #[], .string ⟨#[70, 65, 67, 84]⟩, v] w fun e w' => e = .returned (.bool true) ∧ Below w.heap.size w w' := by
  rcases fr_whole n with ⟨e, b1, b2⟩ | e
  · rw [e] at hr
    refine agrees_flat _ _ [⟨1, n, 1, ⟨#[]⟩⟩] (rFact n) v w hr (by simpa using whole_ok n b1 b2) (by simp) (rFact_ok n b1 b2) (fun W hW => call_Fact n v W ((hr.below hW).more hW.size) b1 b2) enter_FACT ?_
    intro _ h6 W v' hR
    exact impl_FACT [⟨1, n, 1, ⟨#[]⟩⟩] (rFact n) v' W hR (by simpa using whole_ok n b1 b2) (by simp) fun W f l es hI => tells_Fact n l es f W b1 b2 h6 hI
  · rw [e] at hr
    exact agrees_flat _ _ [⟨6, 0, 0, ⟨#[]⟩⟩] ⟨6, 0, 0, ⟨#[]⟩⟩ v w hr (by simpa using doubt_ok) (by simp) doubt_ok (fun W hW => call_Fact_no v W ((hr.below hW).more hW.size)) enter_FACT (fun hu => by simp [anyUnsure] at hu)

set_option maxRecDepth 100000 in
theorem law_Fact (n : Int) (w : World) :
    Calls Tryz.prog 5 #[.int .i64 n] w fun e w' => e = .returned (.bool true) ∧ Below w.heap.size w w' := by
  go_enter Tryz.func5, Tryz.ntmps5
  go_wp2_with (first
    | (go_at_call 15; refine (argWhole_any _ _).mono ?_; rintro e w1 ⟨rfl, hb1⟩)
    | (go_at_call 11; refine (fact_agrees n _ _ (Row.lit1 _ _ (FV.list (fr (16 * n))) _ rfl)).mono ?_; rintro e w2 ⟨rfl, hb2⟩))
  go_ret
  exact ⟨rfl, hb1.trans ((below_one hb2).mono hb1.size)⟩

end Go.Proofs.YtededpnjijfieaaGreatDoor
