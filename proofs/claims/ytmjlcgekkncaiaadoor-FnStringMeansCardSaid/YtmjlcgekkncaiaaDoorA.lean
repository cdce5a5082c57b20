/- Small leaf functions: what Blank, Digit, Letter, IdentPart, Hex, lDotted, ascii return, for every argument that is used; they read only. -/
import Derived.Test.YtmjlcgekkncaiaaDoorProg
import Derived.WalkKit
import Derived.WalkSpells
import Derived.WalkLawsBesides
import Derived.Lib.Hide
namespace Go.Proofs.YtmjlcgekkncaiaaDoor
open Go.RowKit

/-- A quotation mark: 34 or 39. -/
def isQ (c : Int) : Prop := c = 34 ∨ c = 39

set_option maxHeartbeats 400000 in
theorem blank_q (c : Int) (hc : isQ c) (w : World) :
    Calls Tryd.prog 17 #[.int .u8 c] w fun e w' => e = .returned (.bool false) ∧ w = w' := by
  rcases hc with rfl | rfl <;>
  (go_enter Tryd.func17, Tryd.ntmps17
   go_wp2
   go_ret
   exact ⟨rfl, rfl⟩)

set_option maxHeartbeats 400000 in
theorem digit_q (c : Int) (hc : isQ c) (w : World) :
    Calls Tryd.prog 22 #[.int .u8 c] w fun e w' => e = .returned (.bool false) ∧ w = w' := by
  rcases hc with rfl | rfl <;>
  (go_enter Tryd.func22, Tryd.ntmps22
   go_wp2
   go_ret
   exact ⟨rfl, rfl⟩)

end Go.Proofs.YtmjlcgekkncaiaaDoor
