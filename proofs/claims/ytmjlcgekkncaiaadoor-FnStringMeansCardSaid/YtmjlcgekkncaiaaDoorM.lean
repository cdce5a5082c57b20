/- quoteSingleEscape, unicode.IsPrint and FormatUint at base 16, at ASCII. -/
import Derived.Test.YtmjlcgekkncaiaaDoorA
import Derived.Lib.Builder
namespace Go.Proofs.YtmjlcgekkncaiaaDoor
open Go.RowKit

set_option maxHeartbeats 400000 in
theorem single_none (r q : Int) (h0 : ¬ r = q) (h1 : ¬ r = 10) (h2 : ¬ r = 13) (h3 : ¬ r = 9) (h4 : ¬ r = 92) (w : World) :
    Calls Tryd.prog 33 #[.int .i32 r, .int .i32 q, .bool true] w fun e w' => e = .returned (.string ⟨#[]⟩) ∧ w = w' := by
  go_enter Tryd.func33, Tryd.ntmps33
  go_wp2
  go_ret
  exact ⟨rfl, rfl⟩

set_option maxHeartbeats 400000 in
theorem single_mark34 (w : World) :
    Calls Tryd.prog 33 #[.int .i32 34, .int .i32 34, .bool true] w fun e w' => e = .returned (.string ⟨#[92, 34]⟩) ∧ w = w' := by
  go_enter Tryd.func33, Tryd.ntmps33
  go_wp2
  go_ret
  exact ⟨rfl, rfl⟩

set_option maxHeartbeats 400000 in
theorem single_mark39 (w : World) :
    Calls Tryd.prog 33 #[.int .i32 39, .int .i32 39, .bool true] w fun e w' => e = .returned (.string ⟨#[92, 39]⟩) ∧ w = w' := by
  go_enter Tryd.func33, Tryd.ntmps33
  go_wp2
  go_ret
  exact ⟨rfl, rfl⟩

set_option maxHeartbeats 800000 in
theorem single_of (q r : Int) (hq : isQ q) (y : UInt8) (h : (r = 10 ∧ y = 110) ∨ (r = 13 ∧ y = 114) ∨ (r = 9 ∧ y = 116) ∨ (r = 92 ∧ y = 92)) (w : World) :
    Calls Tryd.prog 33 #[.int .i32 r, .int .i32 q, .bool true] w fun e w' => e = .returned (.string ⟨#[92, y]⟩) ∧ w = w' := by
  rcases h with ⟨rfl, rfl⟩ | ⟨rfl, rfl⟩ | ⟨rfl, rfl⟩ | ⟨rfl, rfl⟩ <;> rcases hq with rfl | rfl
  all_goals
    go_enter Tryd.func33, Tryd.ntmps33
    go_wp2
    go_ret
    exact ⟨rfl, rfl⟩

set_option maxHeartbeats 400000 in
theorem isPrint_is (r : Nat) (h : r < 128) (p : Int) (b : Bool) (hb : (bits BinOp.and IntKind.u8 p 128 != 0) = b) (w : World) (hc : w.cell? ⟨1, r, none⟩ = some (.int .u8 p)) :
    Calls Tryd.prog 35 #[.int .i32 r] w fun e w' => e = .returned (.bool b) ∧ w = w' := by
  subst hb
  go_enter Tryd.func35, Tryd.ntmps35
  go_wp2
  go_ret
  exact ⟨rfl, rfl⟩

set_option maxHeartbeats 400000 in
theorem trailing_16 (w : World) (hc : w.cell? ⟨5, 15, none⟩ = some (.int .u8 4)) :
    Calls Tryd.prog 59 #[.int .u64 16] w fun e w' => e = .returned (.int .i64 4) ∧ w = w' := by
  have e : (IntKind.u64.wrap (bits BinOp.and IntKind.u64 16 (IntKind.u64.wrap (-16)) * 285870213051353865) / 288230376151711744).toNat = 15 := by decide +kernel
  go_enter Tryd.func59, Tryd.ntmps59
  go_wp2
  go_ret
  exact ⟨rfl, rfl⟩
end Go.Proofs.YtmjlcgekkncaiaaDoor
