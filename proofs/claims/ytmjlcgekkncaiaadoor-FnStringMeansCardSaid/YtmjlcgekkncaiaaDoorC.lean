/- Escape: what it reads behind a backslash: a letter or sign of the list, or x with two hexadecimal digits. -/
import Derived.Test.YtmjlcgekkncaiaaDoorB
namespace Go.Proofs.YtmjlcgekkncaiaaDoor
open Go.RowKit

set_option maxHeartbeats 800000 in
theorem escape_110 (s : ByteArray) (a : Nat) (_hs : s.size ≤ 1000000) (h : a + 1 < s.size) (hc : ((s[a + 1]'h).toNat : Int) = 110) (w : World) :
    Calls Tryd.prog 37 #[.string s, .int .i64 a, .bool false] w fun e w' => e = .returned (.tuple #[.slice (some ⟨w.heap.size, 0, none⟩) 1 1, .int .i64 (a + 2), .bool true]) ∧ w.alloc (.cells #[.int .u8 10] 5) = w' := by
  go_enter Tryd.func37, Tryd.ntmps37
  go_wp2
  go_loop [10] (fun i => ∃ j : Nat, j ≤ 3 ∧ i = .int .i64 j) (fun i => 3 - (intOf i).toNat)
  case atStart => exact ⟨0, by omega, rfl⟩
  case round =>
    obtain ⟨j, hj, rfl⟩ := hrel
    have hj' : j = 0 ∨ j = 1 ∨ j = 2 ∨ j = 3 := by omega
    clear hj
    rcases hj' with rfl | rfl | rfl | rfl
    · go_wp2
      go_round
      case rel => exact ⟨1, by omega, rfl⟩
      case measure => simp [intOf]
    · go_wp2
      go_round
      case rel => exact ⟨2, by omega, rfl⟩
      case measure => simp [intOf]
    · go_wp2
      go_round
      case rel => exact ⟨3, by omega, rfl⟩
      case measure => simp [intOf]
    · go_wp2
      go_ret3
      exact ⟨rfl, rfl⟩

set_option maxHeartbeats 800000 in
theorem escape_114 (s : ByteArray) (a : Nat) (_hs : s.size ≤ 1000000) (h : a + 1 < s.size) (hc : ((s[a + 1]'h).toNat : Int) = 114) (w : World) :
    Calls Tryd.prog 37 #[.string s, .int .i64 a, .bool false] w fun e w' => e = .returned (.tuple #[.slice (some ⟨w.heap.size, 0, none⟩) 1 1, .int .i64 (a + 2), .bool true]) ∧ w.alloc (.cells #[.int .u8 13] 5) = w' := by
  go_enter Tryd.func37, Tryd.ntmps37
  go_wp2
  go_loop [10] (fun i => ∃ j : Nat, j ≤ 4 ∧ i = .int .i64 j) (fun i => 4 - (intOf i).toNat)
  case atStart => exact ⟨0, by omega, rfl⟩
  case round =>
    obtain ⟨j, hj, rfl⟩ := hrel
    have hj' : j = 0 ∨ j = 1 ∨ j = 2 ∨ j = 3 ∨ j = 4 := by omega
    clear hj
    rcases hj' with rfl | rfl | rfl | rfl | rfl
    · go_wp2
      go_round
      case rel => exact ⟨1, by omega, rfl⟩
      case measure => simp [intOf]
    · go_wp2
      go_round
      case rel => exact ⟨2, by omega, rfl⟩
      case measure => simp [intOf]
    · go_wp2
      go_round
      case rel => exact ⟨3, by omega, rfl⟩
      case measure => simp [intOf]
    · go_wp2
      go_round
      case rel => exact ⟨4, by omega, rfl⟩
      case measure => simp [intOf]
    · go_wp2
      go_ret3
      exact ⟨rfl, rfl⟩

set_option maxHeartbeats 800000 in
theorem escape_116 (s : ByteArray) (a : Nat) (_hs : s.size ≤ 1000000) (h : a + 1 < s.size) (hc : ((s[a + 1]'h).toNat : Int) = 116) (w : World) :
    Calls Tryd.prog 37 #[.string s, .int .i64 a, .bool false] w fun e w' => e = .returned (.tuple #[.slice (some ⟨w.heap.size, 0, none⟩) 1 1, .int .i64 (a + 2), .bool true]) ∧ w.alloc (.cells #[.int .u8 9] 5) = w' := by
  go_enter Tryd.func37, Tryd.ntmps37
  go_wp2
  go_loop [10] (fun i => ∃ j : Nat, j ≤ 5 ∧ i = .int .i64 j) (fun i => 5 - (intOf i).toNat)
  case atStart => exact ⟨0, by omega, rfl⟩
  case round =>
    obtain ⟨j, hj, rfl⟩ := hrel
    have hj' : j = 0 ∨ j = 1 ∨ j = 2 ∨ j = 3 ∨ j = 4 ∨ j = 5 := by omega
    clear hj
    rcases hj' with rfl | rfl | rfl | rfl | rfl | rfl
    · go_wp2
      go_round
      case rel => exact ⟨1, by omega, rfl⟩
      case measure => simp [intOf]
    · go_wp2
      go_round
      case rel => exact ⟨2, by omega, rfl⟩
      case measure => simp [intOf]
    · go_wp2
      go_round
      case rel => exact ⟨3, by omega, rfl⟩
      case measure => simp [intOf]
    · go_wp2
      go_round
      case rel => exact ⟨4, by omega, rfl⟩
      case measure => simp [intOf]
    · go_wp2
      go_round
      case rel => exact ⟨5, by omega, rfl⟩
      case measure => simp [intOf]
    · go_wp2
      go_ret3
      exact ⟨rfl, rfl⟩

set_option maxHeartbeats 800000 in
theorem escape_92 (s : ByteArray) (a : Nat) (_hs : s.size ≤ 1000000) (h : a + 1 < s.size) (hc : ((s[a + 1]'h).toNat : Int) = 92) (w : World) :
    Calls Tryd.prog 37 #[.string s, .int .i64 a, .bool false] w fun e w' => e = .returned (.tuple #[.slice (some ⟨w.heap.size, 0, none⟩) 1 1, .int .i64 (a + 2), .bool true]) ∧ w.alloc (.cells #[.int .u8 92] 5) = w' := by
  go_enter Tryd.func37, Tryd.ntmps37
  go_wp2
  go_loop [10] (fun i => ∃ j : Nat, j ≤ 7 ∧ i = .int .i64 j) (fun i => 7 - (intOf i).toNat)
  case atStart => exact ⟨0, by omega, rfl⟩
  case round =>
    obtain ⟨j, hj, rfl⟩ := hrel
    have hj' : j = 0 ∨ j = 1 ∨ j = 2 ∨ j = 3 ∨ j = 4 ∨ j = 5 ∨ j = 6 ∨ j = 7 := by omega
    clear hj
    rcases hj' with rfl | rfl | rfl | rfl | rfl | rfl | rfl | rfl
    · go_wp2
      go_round
      case rel => exact ⟨1, by omega, rfl⟩
      case measure => simp [intOf]
    · go_wp2
      go_round
      case rel => exact ⟨2, by omega, rfl⟩
      case measure => simp [intOf]
    · go_wp2
      go_round
      case rel => exact ⟨3, by omega, rfl⟩
      case measure => simp [intOf]
    · go_wp2
      go_round
      case rel => exact ⟨4, by omega, rfl⟩
      case measure => simp [intOf]
    · go_wp2
      go_round
      case rel => exact ⟨5, by omega, rfl⟩
      case measure => simp [intOf]
    · go_wp2
      go_round
      case rel => exact ⟨6, by omega, rfl⟩
      case measure => simp [intOf]
    · go_wp2
      go_round
      case rel => exact ⟨7, by omega, rfl⟩
      case measure => simp [intOf]
    · go_wp2
      go_ret3
      exact ⟨rfl, rfl⟩

set_option maxHeartbeats 800000 in
theorem escape_34 (s : ByteArray) (a : Nat) (_hs : s.size ≤ 1000000) (h : a + 1 < s.size) (hc : ((s[a + 1]'h).toNat : Int) = 34) (w : World) :
    Calls Tryd.prog 37 #[.string s, .int .i64 a, .bool false] w fun e w' => e = .returned (.tuple #[.slice (some ⟨w.heap.size, 0, none⟩) 1 1, .int .i64 (a + 2), .bool true]) ∧ w.alloc (.cells #[.int .u8 34] 5) = w' := by
  go_enter Tryd.func37, Tryd.ntmps37
  go_wp2
  go_loop [10] (fun i => ∃ j : Nat, j ≤ 9 ∧ i = .int .i64 j) (fun i => 9 - (intOf i).toNat)
  case atStart => exact ⟨0, by omega, rfl⟩
  case round =>
    obtain ⟨j, hj, rfl⟩ := hrel
    have hj' : j = 0 ∨ j = 1 ∨ j = 2 ∨ j = 3 ∨ j = 4 ∨ j = 5 ∨ j = 6 ∨ j = 7 ∨ j = 8 ∨ j = 9 := by omega
    clear hj
    rcases hj' with rfl | rfl | rfl | rfl | rfl | rfl | rfl | rfl | rfl | rfl
    · go_wp2
      go_round
      case rel => exact ⟨1, by omega, rfl⟩
      case measure => simp [intOf]
    · go_wp2
      go_round
      case rel => exact ⟨2, by omega, rfl⟩
      case measure => simp [intOf]
    · go_wp2
      go_round
      case rel => exact ⟨3, by omega, rfl⟩
      case measure => simp [intOf]
    · go_wp2
      go_round
      case rel => exact ⟨4, by omega, rfl⟩
      case measure => simp [intOf]
    · go_wp2
      go_round
      case rel => exact ⟨5, by omega, rfl⟩
      case measure => simp [intOf]
    · go_wp2
      go_round
      case rel => exact ⟨6, by omega, rfl⟩
      case measure => simp [intOf]
    · go_wp2
      go_round
      case rel => exact ⟨7, by omega, rfl⟩
      case measure => simp [intOf]
    · go_wp2
      go_round
      case rel => exact ⟨8, by omega, rfl⟩
      case measure => simp [intOf]
    · go_wp2
      go_round
      case rel => exact ⟨9, by omega, rfl⟩
      case measure => simp [intOf]
    · go_wp2
      go_ret3
      exact ⟨rfl, rfl⟩

set_option maxHeartbeats 800000 in
theorem escape_39 (s : ByteArray) (a : Nat) (_hs : s.size ≤ 1000000) (h : a + 1 < s.size) (hc : ((s[a + 1]'h).toNat : Int) = 39) (w : World) :
    Calls Tryd.prog 37 #[.string s, .int .i64 a, .bool false] w fun e w' => e = .returned (.tuple #[.slice (some ⟨w.heap.size, 0, none⟩) 1 1, .int .i64 (a + 2), .bool true]) ∧ w.alloc (.cells #[.int .u8 39] 5) = w' := by
  go_enter Tryd.func37, Tryd.ntmps37
  go_wp2
  go_loop [10] (fun i => ∃ j : Nat, j ≤ 10 ∧ i = .int .i64 j) (fun i => 10 - (intOf i).toNat)
  case atStart => exact ⟨0, by omega, rfl⟩
  case round =>
    obtain ⟨j, hj, rfl⟩ := hrel
    have hj' : j = 0 ∨ j = 1 ∨ j = 2 ∨ j = 3 ∨ j = 4 ∨ j = 5 ∨ j = 6 ∨ j = 7 ∨ j = 8 ∨ j = 9 ∨ j = 10 := by omega
    clear hj
    rcases hj' with rfl | rfl | rfl | rfl | rfl | rfl | rfl | rfl | rfl | rfl | rfl
    · go_wp2
      go_round
      case rel => exact ⟨1, by omega, rfl⟩
      case measure => simp [intOf]
    · go_wp2
      go_round
      case rel => exact ⟨2, by omega, rfl⟩
      case measure => simp [intOf]
    · go_wp2
      go_round
      case rel => exact ⟨3, by omega, rfl⟩
      case measure => simp [intOf]
    · go_wp2
      go_round
      case rel => exact ⟨4, by omega, rfl⟩
      case measure => simp [intOf]
    · go_wp2
      go_round
      case rel => exact ⟨5, by omega, rfl⟩
      case measure => simp [intOf]
    · go_wp2
      go_round
      case rel => exact ⟨6, by omega, rfl⟩
      case measure => simp [intOf]
    · go_wp2
      go_round
      case rel => exact ⟨7, by omega, rfl⟩
      case measure => simp [intOf]
    · go_wp2
      go_round
      case rel => exact ⟨8, by omega, rfl⟩
      case measure => simp [intOf]
    · go_wp2
      go_round
      case rel => exact ⟨9, by omega, rfl⟩
      case measure => simp [intOf]
    · go_wp2
      go_round
      case rel => exact ⟨10, by omega, rfl⟩
      case measure => simp [intOf]
    · go_wp2
      go_ret3
      exact ⟨rfl, rfl⟩

end Go.Proofs.YtmjlcgekkncaiaaDoor
