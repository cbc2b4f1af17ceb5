/-
What the texts of MID and SUBSTITUTE lean on; lists of arguments in later worlds.
-/
import Derived.Test.YtopomonencffkaaGreatDoorRunes
import Derived.Test.YtopomonencffkaaGreatDoorValue
import Derived.Test.YtopomonencffkaaGreatDoorTwos
import Derived.Test.YtopomonencffkaaGreatDoorReadO
namespace Go.Proofs.YtopomonencffkaaGreatDoor
open Go.RowKit

theorem IList.below {w w' : World} {l : Nat} {vs : List FV} {es : List (Nat × Value)} (h : IList w l vs es) (hb : Below w.heap.size w w') : IList w' l vs es := ⟨h.ring.below hb, h.len, h.vals⟩

end Go.Proofs.YtopomonencffkaaGreatDoor
