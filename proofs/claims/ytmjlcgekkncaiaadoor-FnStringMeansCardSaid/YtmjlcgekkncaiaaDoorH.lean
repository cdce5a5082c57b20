/- Literal: the text is one string literal of the value. -/
import Derived.Test.YtmjlcgekkncaiaaDoorG
namespace Go.Proofs.YtmjlcgekkncaiaaDoor
open Go.RowKit

set_option maxHeartbeats 1600000 in
set_option maxRecDepth 100000 in
theorem literal_lit (q : UInt8) (hq : q = 34 ∨ q = 39) (l : List UInt8) (s : ByteArray) (hs : s.data.toList = lit q l) (hsz : s.size ≤ 1000000) (w : World) :
    Calls Tryd.prog 5 #[.string s, .string ⟨l.toArray⟩, .bool false] w fun e w' => e = .returned (.bool true) ∧ Below w.heap.size w w' := by
  have hL := lex_lit q hq l s hs hsz
  clear hs
  go_enter Tryd.func5, Tryd.ntmps5
  go_wp2_with fail
  refine (hL _).mono ?_
  rintro e W1 ⟨g, cap, rfl, hb, hg, k0, k2, k3⟩
  go_wp2
  go_ret
  exact ⟨rfl, hb⟩

end Go.Proofs.YtmjlcgekkncaiaaDoor
