/- quoteSQLStringContent: at ASCII it writes, behind what the buffer holds, each byte's part of the literal. -/
import Derived.Test.YtmjlcgekkncaiaaDoorN
import Derived.Test.YtmjlcgekkncaiaaDoorShelf
import Derived.Lib.BufferKept
import Derived.Lib.BufferOld
import Derived.Lib.RuneBytes
import Derived.Lib.ItoaWalk
import Derived.BigCall
namespace Go.Proofs.YtmjlcgekkncaiaaDoor
open Go.RowKit

/-- What quoteSingleEscape and the ways behind it do with one byte. -/
theorem byte_ways (q c : UInt8) (hq : q = 34 ∨ q = 39) :
    (unit q c = [c] ∧ ¬ (c.toNat : Int) = q.toNat ∧ ¬ (c.toNat : Int) = 10 ∧ ¬ (c.toNat : Int) = 13 ∧ ¬ (c.toNat : Int) = 9 ∧ ¬ (c.toNat : Int) = 92 ∧ 32 ≤ c.toNat ∧ c.toNat ≤ 126) ∨
    (∃ y, unit q c = [92, y] ∧ ∀ w, Calls Tryd.prog 33 #[.int .i32 c.toNat, .int .i32 q.toNat, .bool true] w fun e w' => e = .returned (.string ⟨#[92, y]⟩) ∧ w = w') ∨
    (unit q c = [92, 120, hexd (c.toNat / 16), hexd (c.toNat % 16)] ∧ ¬ (c.toNat : Int) = q.toNat ∧ ¬ (c.toNat : Int) = 10 ∧ ¬ (c.toNat : Int) = 13 ∧ ¬ (c.toNat : Int) = 9 ∧ ¬ (c.toNat : Int) = 92 ∧ ¬ (32 ≤ c.toNat ∧ c.toNat ≤ 126)) := by
  have hqq : isQ (q.toNat : Int) := by rcases hq with rfl | rfl; exact .inl rfl; exact .inr rfl
  have ne : ∀ y : UInt8, c ≠ y → ¬ (c.toNat : Int) = (y.toNat : Int) := fun y h e => h (UInt8.toNat_inj.1 (by omega))
  by_cases h1 : c = q
  · refine .inr (.inl ⟨q, by unfold unit; rw [if_pos h1], fun w => ?_⟩)
    subst h1
    rcases hq with rfl | rfl
    · exact single_mark34 w
    · exact single_mark39 w
  by_cases h2 : c = 10
  · exact .inr (.inl ⟨110, by unfold unit; rw [if_neg h1, if_pos h2], fun w => single_of _ _ hqq 110 (.inl ⟨by rw [h2]; rfl, rfl⟩) w⟩)
  by_cases h3 : c = 13
  · exact .inr (.inl ⟨114, by unfold unit; rw [if_neg h1, if_neg h2, if_pos h3], fun w => single_of _ _ hqq 114 (.inr (.inl ⟨by rw [h3]; rfl, rfl⟩)) w⟩)
  by_cases h4 : c = 9
  · exact .inr (.inl ⟨116, by unfold unit; rw [if_neg h1, if_neg h2, if_neg h3, if_pos h4], fun w => single_of _ _ hqq 116 (.inr (.inr (.inl ⟨by rw [h4]; rfl, rfl⟩))) w⟩)
  by_cases h5 : c = 92
  · exact .inr (.inl ⟨92, by unfold unit; rw [if_neg h1, if_neg h2, if_neg h3, if_neg h4, if_pos h5], fun w => single_of _ _ hqq 92 (.inr (.inr (.inr ⟨by rw [h5]; rfl, rfl⟩))) w⟩)
  by_cases h6 : 32 ≤ c.toNat ∧ c.toNat ≤ 126
  · exact .inl ⟨by unfold unit; rw [if_neg h1, if_neg h2, if_neg h3, if_neg h4, if_neg h5, if_pos h6], ne q h1, ne 10 h2, ne 13 h3, ne 9 h4, ne 92 h5, h6⟩
  · exact .inr (.inr ⟨by unfold unit; rw [if_neg h1, if_neg h2, if_neg h3, if_neg h4, if_neg h5, if_neg h6], ne q h1, ne 10 h2, ne 13 h3, ne 9 h4, ne 92 h5, h6⟩)

/-- The table of package unicode's properties, at ASCII. -/
def propTab : List Int := [1, 1, 1, 1, 1, 1, 1, 1, 1, 1, 1, 1, 1, 1, 1, 1, 1, 1, 1, 1, 1, 1, 1, 1, 1, 1, 1, 1, 1, 1, 1, 1, 144, 130, 130, 130, 136, 130, 130, 130, 130, 130, 130, 136, 130, 130, 130, 130, 132, 132, 132, 132, 132, 132, 132, 132, 132, 132, 130, 130, 136, 136, 136, 130, 130, 160, 160, 160, 160, 160, 160, 160, 160, 160, 160, 160, 160, 160, 160, 160, 160, 160, 160, 160, 160, 160, 160, 160, 160, 160, 160, 130, 130, 130, 136, 130, 136, 192, 192, 192, 192, 192, 192, 192, 192, 192, 192, 192, 192, 192, 192, 192, 192, 192, 192, 192, 192, 192, 192, 192, 192, 192, 192, 130, 136, 130, 136, 1]

theorem print_bit (r : Nat) (h : r < 128) : (bits BinOp.and IntKind.u8 (propTab.getD r 0) 128 != 0) = decide (32 ≤ r ∧ r ≤ 126) := by
  have key : ∀ x : Fin 128, (bits BinOp.and IntKind.u8 (propTab.getD x.val 0) 128 != 0) = decide (32 ≤ x.val ∧ x.val ≤ 126) := by decide +kernel
  exact key ⟨r, h⟩

/-- IsPrint AT ASCII, over the table as its initialiser lays it. -/
theorem isPrint_ascii (r : Nat) (h : r < 128) (w : World) (hP : ∀ r, r < 128 → w.cell? ⟨1, r, none⟩ = some (.int .u8 (propTab.getD r 0))) :
    Calls Tryd.prog 35 #[.int .i32 r] w fun e w' => e = .returned (.bool (decide (32 ≤ r ∧ r ≤ 126))) ∧ w = w' :=
  isPrint_is r h _ _ (print_bit r h) w (hP r h)

end Go.Proofs.YtmjlcgekkncaiaaDoor
