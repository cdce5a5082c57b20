/- lStarts, lBlanks, lComment: what they return at the beginning of a literal and at the end of a text. -/
import Derived.Test.YtmjlcgekkncaiaaDoorA
import Derived.Lib.Strings
namespace Go.Proofs.YtmjlcgekkncaiaaDoor
open Go.RowKit

set_option maxHeartbeats 400000 in
theorem lStarts_short (s part : ByteArray) (a : Nat) (_hs : s.size ≤ 1000000) (_hp : part.size ≤ 1000) (h : a ≤ s.size) (h2 : s.size < a + part.size) (w : World) :
    Calls Tryd.prog 18 #[.string s, .int .i64 a, .string part] w fun e w' => e = .returned (.bool false) ∧ w = w' := by
  go_enter Tryd.func18, Tryd.ntmps18
  go_wp2
  go_ret
  exact ⟨rfl, rfl⟩

set_option maxHeartbeats 400000 in
theorem lStarts_long (s part : ByteArray) (a : Nat) (_hs : s.size ≤ 1000000) (_hp : part.size ≤ 1000) (h : a + part.size ≤ s.size) (w : World) :
    Calls Tryd.prog 18 #[.string s, .int .i64 a, .string part] w fun e w' => e = .returned (.bool ((s.extract a (a + part.size)).toList == part.toList)) ∧ w = w' := by
  go_enter Tryd.func18, Tryd.ntmps18
  go_wp2
  go_ret
  exact ⟨rfl, rfl⟩

/-- Whether a text's bytes from a place on begin with a part's. -/
def startsB (l p : List UInt8) (a : Nat) : Bool := decide (a + p.length ≤ l.length) && ((l.drop a).take p.length == p)

theorem lStarts_is (s part : ByteArray) (a : Nat) (hs : s.size ≤ 1000000) (hp : part.size ≤ 1000) (h : a ≤ s.size) (b : Bool) (hb : startsB s.data.toList part.data.toList a = b) (w : World) :
    Calls Tryd.prog 18 #[.string s, .int .i64 a, .string part] w fun e w' => e = .returned (.bool b) ∧ w = w' := by
  subst hb
  have e1 := Lib.size_eq s
  have e2 := Lib.size_eq part
  by_cases h2 : a + part.size ≤ s.size
  · refine (lStarts_long s part a hs hp h2 w).mono fun e w' ⟨he, hw⟩ => ⟨?_, hw⟩
    rw [he]
    have hd : decide (a + part.data.toList.length ≤ s.data.toList.length) = true := by rw [decide_eq_true_iff]; omega
    unfold startsB
    rw [hd, Bool.true_and, Lib.extract_toList, Lib.toList_data, show a + part.size - a = part.data.toList.length by omega]
  · refine (lStarts_short s part a hs hp h (by omega) w).mono fun e w' ⟨he, hw⟩ => ⟨?_, hw⟩
    rw [he]
    have hd : decide (a + part.data.toList.length ≤ s.data.toList.length) = false := by rw [decide_eq_false_iff_not]; omega
    unfold startsB
    rw [hd, Bool.false_and]

/-- A text that begins with another byte than a part does not begin with it. -/
theorem startsB_ne (x : UInt8) (l : List UInt8) (c : UInt8) (p : List UInt8) (h : x ≠ c) : startsB (x :: l) (c :: p) 0 = false := by
  unfold startsB
  simp [h]

/-- At the end of a text nothing begins. -/
theorem startsB_end (l : List UInt8) (c : UInt8) (p : List UInt8) : startsB l (c :: p) l.length = false := by
  unfold startsB
  simp

set_option maxHeartbeats 400000 in
theorem lBlanks_end (s : ByteArray) (_hs : s.size ≤ 1000000) (w : World) :
    Calls Tryd.prog 9 #[.string s, .int .i64 s.size] w fun e w' => e = .returned (.int .i64 s.size) ∧ w = w' := by
  go_enter Tryd.func9, Tryd.ntmps9
  go_wp2
  go_loop [1] (fun i => i = .int .i64 s.size) (fun _ => 0)
  case atStart => rfl
  case round =>
    subst hrel
    go_wp2
    go_ret
    exact ⟨rfl, rfl⟩

set_option maxHeartbeats 400000 in
theorem lBlanks_q (s : ByteArray) (_hs : s.size ≤ 1000000) (h0 : 0 < s.size) (hc : isQ (s[0].toNat : Int)) (w : World) :
    Calls Tryd.prog 9 #[.string s, .int .i64 0] w fun e w' => e = .returned (.int .i64 0) ∧ w = w' := by
  go_enter Tryd.func9, Tryd.ntmps9
  go_wp2
  go_loop [1] (fun i => i = .int .i64 0) (fun _ => 0)
  case atStart => rfl
  case round =>
    subst hrel
    go_wp2_with (go_at_call 17; refine (blank_q _ hc _).mono ?_; rintro e w' ⟨rfl, rfl⟩)
    go_ret
    exact ⟨rfl, rfl⟩

set_option maxHeartbeats 400000 in
/-- No comment begins at a place where neither '#' nor '--' nor '/*' stands. -/
theorem lComment_no (s : ByteArray) (a : Nat) (hs : s.size ≤ 1000000) (ha : a ≤ s.size)
    (h1 : startsB s.data.toList [35] a = false) (h2 : startsB s.data.toList [45, 45] a = false) (h3 : startsB s.data.toList [47, 42] a = false) (w : World) :
    Calls Tryd.prog 10 #[.string s, .int .i64 a] w fun e w' => e = .returned (.int .i64 a) ∧ w = w' := by
  have c1 := fun w => lStarts_is s ⟨#[35]⟩ a hs (by decide) ha false h1 w
  have c2 := fun w => lStarts_is s ⟨#[45, 45]⟩ a hs (by decide) ha false h2 w
  have c3 := fun w => lStarts_is s ⟨#[47, 42]⟩ a hs (by decide) ha false h3 w
  clear h1 h2 h3
  go_enter Tryd.func10, Tryd.ntmps10
  go_wp2_with fail
  refine (c1 _).mono ?_
  rintro e w' ⟨rfl, rfl⟩
  go_wp2_with fail
  refine (c2 _).mono ?_
  rintro e w' ⟨rfl, rfl⟩
  go_wp2_with fail
  refine (c3 _).mono ?_
  rintro e w' ⟨rfl, rfl⟩
  go_wp2_with fail
  go_ret
  exact ⟨rfl, rfl⟩

set_option maxHeartbeats 400000 in
theorem lDotted_empty (w : World) :
    Calls Tryd.prog 11 #[.string ⟨#[]⟩] w fun e w' => e = .returned (.bool false) ∧ w = w' := by
  go_enter Tryd.func11, Tryd.ntmps11
  go_wp2
  go_ret
  exact ⟨rfl, rfl⟩

set_option maxHeartbeats 400000 in
theorem lDotted_string (w : World) :
    Calls Tryd.prog 11 #[.string ⟨#[60, 115, 116, 114, 105, 110, 103, 62]⟩] w fun e w' => e = .returned (.bool false) ∧ w = w' := by
  go_enter Tryd.func11, Tryd.ntmps11
  go_wp2
  go_ret
  exact ⟨rfl, rfl⟩

set_option maxHeartbeats 400000 in
theorem prefix_q (s : ByteArray) (_hs : s.size ≤ 1000000) (h0 : 0 < s.size) (hc : isQ (s[0].toNat : Int)) (w : World) :
    Calls Tryd.prog 25 #[.string s, .int .i64 0] w fun e w' => e = .returned (.tuple #[.int .i64 0, .bool false, .bool false]) ∧ w = w' := by
  obtain ⟨c, hcc⟩ : ∃ c : Int, (s[0].toNat : Int) = c := ⟨_, rfl⟩
  rw [hcc] at hc
  go_enter Tryd.func25, Tryd.ntmps25
  go_wp2
  go_loop [7, 8, 9] (fun a b i => a = .bool false ∧ b = .bool false ∧ i = .int .i64 0) (fun _ _ _ => 0)
  case atStart => exact ⟨rfl, rfl, rfl⟩
  case round =>
    obtain ⟨rfl, rfl, rfl⟩ := hrel
    rcases hc with rfl | rfl
    all_goals
      go_wp2
      go_ret3
      exact ⟨rfl, rfl⟩
end Go.Proofs.YtmjlcgekkncaiaaDoor
