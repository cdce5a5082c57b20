/- Hex at a digit or a small letter; Escape at x with two such digits. -/
import Derived.Test.YtmjlcgekkncaiaaDoorC
namespace Go.Proofs.YtmjlcgekkncaiaaDoor
open Go.RowKit

/-- c is the byte of the hexadecimal digit of value v, in small letters. -/
def HexIs (c v : Int) : Prop := (48 ≤ c ∧ c ≤ 57 ∧ v = c - 48) ∨ (97 ≤ c ∧ c ≤ 102 ∧ v = c - 87)

theorem HexIs.bd {c v : Int} (h : HexIs c v) : 0 ≤ v ∧ v ≤ 15 := by
  rcases h with ⟨h1, h2, h3⟩ | ⟨h1, h2, h3⟩ <;> omega

set_option maxHeartbeats 800000 in
theorem hex_is (c v : Int) (h : HexIs c v) (w : World) :
    Calls Tryd.prog 38 #[.int .u8 c] w fun e w' => e = .returned (.int .i64 v) ∧ w = w' := by
  rcases h with ⟨h1, h2, h3⟩ | ⟨h1, h2, h3⟩
  · have H3 := Lib.hid h3
    clear h3
    go_enter Tryd.func38, Tryd.ntmps38
    go_wp2
    go_ret
    exact ⟨by rw [H3.out]; rfl, rfl⟩
  · have H3 := Lib.hid h3
    clear h3
    have k1 : ¬ c ≤ 57 := by omega
    go_enter Tryd.func38, Tryd.ntmps38
    go_wp2
    go_ret
    exact ⟨by rw [H3.out, show c - 97 + 10 = c - 87 by omega]; rfl, rfl⟩

set_option maxHeartbeats 1600000 in
theorem escape_x (s : ByteArray) (a : Nat) (_hs : s.size ≤ 1000000) (h : a + 3 < s.size) (hc : ((s[a + 1]'(by omega)).toNat : Int) = 120)
    (v1 v2 : Int) (h1 : HexIs ((s[a + 2]'(by omega)).toNat : Int) v1) (h2 : HexIs ((s[a + 3]'(by omega)).toNat : Int) v2) (w : World) :
    Calls Tryd.prog 37 #[.string s, .int .i64 a, .bool false] w fun e w' => e = .returned (.tuple #[.slice (some ⟨w.heap.size, 0, none⟩) 1 1, .int .i64 (a + 4), .bool true]) ∧ w.alloc (.cells #[.int .u8 (16 * v1 + v2)] 5) = w' := by
  have b1 := h1.bd
  have b2 := h2.bd
  go_enter Tryd.func37, Tryd.ntmps37
  go_wp2
  go_loop [10] (fun i => ∃ j : Nat, j ≤ 12 ∧ i = .int .i64 j) (fun i => 12 - (intOf i).toNat)
  case atStart => exact ⟨0, by omega, rfl⟩
  case round =>
    obtain ⟨j, hj, rfl⟩ := hrel
    have hj' : j = 0 ∨ j = 1 ∨ j = 2 ∨ j = 3 ∨ j = 4 ∨ j = 5 ∨ j = 6 ∨ j = 7 ∨ j = 8 ∨ j = 9 ∨ j = 10 ∨ j = 11 ∨ j = 12 := by omega
    clear hj
    rcases hj' with rfl | rfl | rfl | rfl | rfl | rfl | rfl | rfl | rfl | rfl | rfl | rfl | rfl
    · go_wp2
      go_round
      case rel => exact ⟨1, by omega, rfl⟩
      case measure => simp [intOf]
    · go_wp2
      go_round
      case rel => exact ⟨2, by omega, rfl⟩
      case measure => simp [intOf]
    · go_wp2
      go_round
      case rel => exact ⟨3, by omega, rfl⟩
      case measure => simp [intOf]
    · go_wp2
      go_round
      case rel => exact ⟨4, by omega, rfl⟩
      case measure => simp [intOf]
    · go_wp2
      go_round
      case rel => exact ⟨5, by omega, rfl⟩
      case measure => simp [intOf]
    · go_wp2
      go_round
      case rel => exact ⟨6, by omega, rfl⟩
      case measure => simp [intOf]
    · go_wp2
      go_round
      case rel => exact ⟨7, by omega, rfl⟩
      case measure => simp [intOf]
    · go_wp2
      go_round
      case rel => exact ⟨8, by omega, rfl⟩
      case measure => simp [intOf]
    · go_wp2
      go_round
      case rel => exact ⟨9, by omega, rfl⟩
      case measure => simp [intOf]
    · go_wp2
      go_round
      case rel => exact ⟨10, by omega, rfl⟩
      case measure => simp [intOf]
    · go_wp2
      go_round
      case rel => exact ⟨11, by omega, rfl⟩
      case measure => simp [intOf]
    · go_wp2
      go_round
      case rel => exact ⟨12, by omega, rfl⟩
      case measure => simp [intOf]
    · go_wp2
      go_loop [11, 14] (fun n i => (n = .int .i64 0 ∧ i = .int .i64 ((a : Int) + 2)) ∨ (n = .int .i64 v1 ∧ i = .int .i64 ((a : Int) + 3)) ∨ (n = .int .i64 (16 * v1 + v2) ∧ i = .int .i64 ((a : Int) + 4))) (fun _ i => a + 4 - (intOf i).toNat)
      case atStart => exact .inl ⟨rfl, rfl⟩
      case round =>
        rcases hrel with ⟨rfl, rfl⟩ | ⟨rfl, rfl⟩ | ⟨rfl, rfl⟩
        · go_wp2_with (go_at_call 38; refine (hex_is _ v1 h1 _).mono ?_; rintro e w' ⟨rfl, rfl⟩)
          go_round
          case rel => exact .inr (.inl ⟨by go_num, by go_num⟩)
          case measure => simp [intOf]; omega
        · go_wp2_with (go_at_call 38; refine (hex_is _ v2 h2 _).mono ?_; rintro e w' ⟨rfl, rfl⟩)
          go_round
          case rel => exact .inr (.inr ⟨by go_num, by go_num⟩)
          case measure => simp [intOf]; omega
        · go_wp2
          go_ret3
          exact ⟨rfl, rfl⟩
end Go.Proofs.YtmjlcgekkncaiaaDoor
