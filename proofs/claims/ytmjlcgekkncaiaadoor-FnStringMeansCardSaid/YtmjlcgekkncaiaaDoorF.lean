/- lToken: at the beginning of a literal, and at the end of a text. -/
import Derived.Test.YtmjlcgekkncaiaaDoorE
namespace Go.Proofs.YtmjlcgekkncaiaaDoor
open Go.RowKit

theorem quoted_any (q : UInt8) (hq : q = 34 ∨ q = 39) (l : List UInt8) (s : ByteArray) (hs : s.data.toList = lit q l) (hsz : s.size ≤ 1000000) (w : World) :
    Calls Tryd.prog 21 #[.string s, .int .i64 0, .bool false, .bool false] w fun e w' => e = .returned (.tuple #[.string ⟨l.toArray⟩, .int .i64 s.size, .bool true]) ∧ Below w.heap.size w w' := by
  rcases hq with rfl | rfl
  · exact quoted_34 l s hs hsz w
  · exact quoted_39 l s hs hsz w

set_option maxHeartbeats 800000 in
set_option maxRecDepth 100000 in
/-- At the end of a text: '<eof>'. -/
theorem lToken_end (s : ByteArray) (_hsz : s.size ≤ 1000000) (tb : Nat) (k sp ra tx ba po en co : Value) (w : World) (ht : w.heap[tb]? = some (.cells #[k, sp, ra, tx, ba, po, en, co] 30 (0, 0))) :
    Calls Tryd.prog 12 #[.string s, .int .i64 s.size, .bool false, .bool false, .pointer (some ⟨tb, 0, none⟩)] w fun e w' => e = .returned (.tuple #[.int .i64 s.size, .bool true]) ∧
      w.setCell ⟨tb, 0, none⟩ (.string ⟨#[60, 101, 111, 102, 62]⟩) = w' := by
  have c0 : w.cell? ⟨tb, 0, none⟩ = some k := by rw [Lib.cell_of_heap ht]; rfl
  have f0 : w.frozen? ⟨tb, 0, none⟩ = false := Lib.frozen_of_heap ht 0
  clear ht
  go_enter Tryd.func12, Tryd.ntmps12
  go_wp2
  go_ret2
  exact ⟨rfl, rfl⟩

set_option maxHeartbeats 1600000 in
set_option maxRecDepth 100000 in
/-- At the beginning of a literal: '<string>', and its value. -/
theorem lToken_lit (q : UInt8) (hq : q = 34 ∨ q = 39) (l : List UInt8) (s : ByteArray) (hs : s.data.toList = lit q l) (hsz : s.size ≤ 1000000)
    (tb : Nat) (k sp ra tx ba po en co : Value) (w : World) (ht : w.heap[tb]? = some (.cells #[k, sp, ra, tx, ba, po, en, co] 30 (0, 0))) :
    Calls Tryd.prog 12 #[.string s, .int .i64 0, .bool false, .bool false, .pointer (some ⟨tb, 0, none⟩)] w fun e w' => e = .returned (.tuple #[.int .i64 s.size, .bool true]) ∧
      ∃ W1, Below w.heap.size w W1 ∧ (W1.setCell ⟨tb, 0, none⟩ (.string ⟨#[60, 115, 116, 114, 105, 110, 103, 62]⟩)).setCell ⟨tb, 3, none⟩ (.string ⟨l.toArray⟩) = w' := by
  have h2 : 2 ≤ s.size := by rw [Lib.size_eq, hs, lit_len]; omega
  have hlt : tb < w.heap.size := (Array.getElem?_eq_some_iff.1 ht).1
  have hQ := quoted_any q hq l s hs hsz
  obtain ⟨hh, hx0⟩ := at_drop_int s 0 0 q (by rw [hs]; rfl)
  have hx1 : ((s[0]'(by omega)).toNat : Int) = (q.toNat : Int) := hx0
  have hqq : isQ ((s[0]'(by omega)).toNat : Int) := by rw [hx1]; rcases hq with rfl | rfl; exact .inl rfl; exact .inr rfl
  have hP := prefix_q s hsz (by omega) hqq
  clear hx0 hx1 hs
  obtain ⟨c, hc⟩ : ∃ c : Int, ((s[0]'(by omega)).toNat : Int) = c := ⟨_, rfl⟩
  rw [hc] at hqq
  have hD := digit_q c hqq
  have c1 : ¬ c = 96 := by rcases hqq with rfl | rfl <;> decide
  have c2 : ¬ c = 46 := by rcases hqq with rfl | rfl <;> decide
  have c3 : ¬ c = 64 := by rcases hqq with rfl | rfl <;> decide
  clear hqq
  go_enter Tryd.func12, Tryd.ntmps12
  go_wp2_with fail
  refine (hD _).mono ?_
  rintro e w' ⟨rfl, rfl⟩
  go_wp2_with fail
  refine (hP _).mono ?_
  rintro e w' ⟨rfl, rfl⟩
  go_wp2_with fail
  refine (hQ _).mono ?_
  rintro e W1 ⟨rfl, hb⟩
  have ht1 := (hb.block tb hlt).trans ht
  have d0 : W1.cell? ⟨tb, 0, none⟩ = some k := by rw [Lib.cell_of_heap ht1]; rfl
  have d3 : W1.cell? ⟨tb, 3, none⟩ = some tx := by rw [Lib.cell_of_heap ht1]; rfl
  have f0 : W1.frozen? ⟨tb, 0, none⟩ = false := Lib.frozen_of_heap ht1 0
  have f3 : W1.frozen? ⟨tb, 3, none⟩ = false := Lib.frozen_of_heap ht1 3
  clear ht1 ht
  go_wp2
  go_ret2
  exact ⟨rfl, _, hb, rfl⟩

end Go.Proofs.YtmjlcgekkncaiaaDoor
