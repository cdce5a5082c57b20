/- FormatUint at base 16 below 128, and zzHex of two digits. -/
import Derived.Test.YtmjlcgekkncaiaaDoorM
import Derived.Test.YtmjlcgekkncaiaaDoorL
namespace Go.Proofs.YtmjlcgekkncaiaaDoor
open Go.RowKit

theorem and15 (u : Nat) (h : u < 128) : bits BinOp.and IntKind.u64 (u : Int) 15 = ((u % 16 : Nat) : Int) := by
  have key : ∀ x : Fin 128, bits BinOp.and IntKind.u64 (x.val : Int) 15 = ((x.val % 16 : Nat) : Int) := by decide +kernel
  exact key ⟨u, h⟩

set_option maxHeartbeats 400000 in
theorem pow_16 (w : World) :
    Calls Tryd.prog 58 #[.int .i64 16] w fun e w' => e = .returned (.bool true) ∧ w = w' := by
  have e : bits BinOp.and IntKind.i64 16 15 = 0 := by decide +kernel
  go_enter Tryd.func58, Tryd.ntmps58
  go_wp2
  go_ret
  exact ⟨rfl, rfl⟩

theorem digits_at (u : Nat) (h : u < 16) (h' : u < (⟨#[48, 49, 50, 51, 52, 53, 54, 55, 56, 57, 97, 98, 99, 100, 101, 102, 103, 104, 105, 106, 107, 108, 109, 110, 111, 112, 113, 114, 115, 116, 117, 118, 119, 120, 121, 122]⟩ : ByteArray).size) :
    (⟨#[48, 49, 50, 51, 52, 53, 54, 55, 56, 57, 97, 98, 99, 100, 101, 102, 103, 104, 105, 106, 107, 108, 109, 110, 111, 112, 113, 114, 115, 116, 117, 118, 119, 120, 121, 122]⟩ : ByteArray)[u]'h' = hexd u := by
  have hu : u = 0 ∨ u = 1 ∨ u = 2 ∨ u = 3 ∨ u = 4 ∨ u = 5 ∨ u = 6 ∨ u = 7 ∨ u = 8 ∨ u = 9 ∨ u = 10 ∨ u = 11 ∨ u = 12 ∨ u = 13 ∨ u = 14 ∨ u = 15 := by omega
  rcases hu with rfl | rfl | rfl | rfl | rfl | rfl | rfl | rfl | rfl | rfl | rfl | rfl | rfl | rfl | rfl | rfl <;> rfl

theorem conv_one (w : World) (d : UInt8) : (convert 38 9 (.slice (some ⟨w.heap.size, 64, none⟩) 1 1)).run Tryd.prog (w.alloc (.cells (Tryd.zeroCells99.setIfInBounds 64 (.int .u8 d.toNat)) 99)) =
    .ok (.string ⟨#[d]⟩) (w.alloc (.cells (Tryd.zeroCells99.setIfInBounds 64 (.int .u8 d.toNat)) 99)) := by
  refine run_convert_bytes_back _ 38 9 5 ⟨w.heap.size, 64, none⟩ 1 [d] Tryd.underlying38 Tryd.underlying5 Tryd.underlying9 (fun j hj => ?_)
  have hj0 : j = 0 := by simp at hj; omega
  subst hj0
  rw [Addr.add_lit, Lib.cell_of_heap (heap_alloc_new w _), Array.getElem?_setIfInBounds]
  simp

theorem conv_two (w : World) (d e : UInt8) : (convert 38 9 (.slice (some ⟨w.heap.size, 63, none⟩) 2 2)).run Tryd.prog (w.alloc (.cells ((Tryd.zeroCells99.setIfInBounds 64 (.int .u8 e.toNat)).setIfInBounds 63 (.int .u8 d.toNat)) 99)) =
    .ok (.string ⟨#[d, e]⟩) (w.alloc (.cells ((Tryd.zeroCells99.setIfInBounds 64 (.int .u8 e.toNat)).setIfInBounds 63 (.int .u8 d.toNat)) 99)) := by
  refine run_convert_bytes_back _ 38 9 5 ⟨w.heap.size, 63, none⟩ 2 [d, e] Tryd.underlying38 Tryd.underlying5 Tryd.underlying9 (fun j hj => ?_)
  have hj0 : j = 0 ∨ j = 1 := by simp at hj; omega
  rcases hj0 with rfl | rfl
  · rw [Addr.add_lit, Lib.cell_of_heap (heap_alloc_new w _), Array.getElem?_setIfInBounds]
    simp
  · rw [Addr.add_lit, Lib.cell_of_heap (heap_alloc_new w _), Array.getElem?_setIfInBounds, Array.getElem?_setIfInBounds]
    simp

set_option maxHeartbeats 1600000 in
set_option maxRecDepth 100000 in
theorem fb_small (u : Nat) (h : u < 16) (w : World) (hc : w.cell? ⟨5, 15, none⟩ = some (.int .u8 4)) :
    Calls Tryd.prog 54 #[.slice none 0 0, .int .u64 u, .int .i64 16, .bool false, .bool false] w fun e w' => e = .returned (.tuple #[.slice none 0 0, .string ⟨#[hexd u]⟩]) ∧ Below w.heap.size w w' := by
  have h5 : 5 < w.heap.size := World.block_lt_of_cell? w _ hc
  have hcv := conv_one w
  go_enter Tryd.func54, Tryd.ntmps54
  go_wp2_with fail
  refine (pow_16 _).mono ?_
  rintro e w' ⟨rfl, rfl⟩
  go_wp2_with fail
  refine (trailing_16 _ ?_).mono ?_
  · rw [World.cell?_alloc_past _ _ _ h5]
    exact hc
  rintro e w' ⟨rfl, rfl⟩
  go_wp2_with fail
  refine wp_loop_rounds 1 ?_
  rw [rounds_succ]
  go_wp2_with fail
  go_ret2
  exact ⟨by rw [← digits_at u h]; rfl, (Below.refl _ _).alloc (Nat.le_refl _) _⟩

set_option maxHeartbeats 1600000 in
set_option maxRecDepth 100000 in
theorem fb_two (u : Nat) (h16 : 16 ≤ u) (h : u < 128) (w : World) (hc : w.cell? ⟨5, 15, none⟩ = some (.int .u8 4)) :
    Calls Tryd.prog 54 #[.slice none 0 0, .int .u64 u, .int .i64 16, .bool false, .bool false] w fun e w' => e = .returned (.tuple #[.slice none 0 0, .string ⟨#[hexd (u / 16), hexd (u % 16)]⟩]) ∧ Below w.heap.size w w' := by
  have h5 : 5 < w.heap.size := World.block_lt_of_cell? w _ hc
  have hcv := conv_two w
  have ha := and15 u h
  have hm : u % 16 < 16 := by omega
  have hd : u / 16 < 16 := by omega
  go_enter Tryd.func54, Tryd.ntmps54
  go_wp2_with fail
  refine (pow_16 _).mono ?_
  rintro e w' ⟨rfl, rfl⟩
  go_wp2_with fail
  refine (trailing_16 _ ?_).mono ?_
  · rw [World.cell?_alloc_past _ _ _ h5]
    exact hc
  rintro e w' ⟨rfl, rfl⟩
  go_wp2_with fail
  refine wp_loop_rounds 2 ?_
  rw [rounds_succ]
  go_wp2_with fail
  rw [rounds_succ]
  go_wp2_with fail
  go_ret2
  exact ⟨by rw [← digits_at _ hm, ← digits_at _ hd]; rfl, (Below.refl _ _).alloc (Nat.le_refl _) _⟩

/-- A number below 128 in base 16. -/
def hexOf (u : Nat) : List UInt8 := if u < 16 then [hexd u] else [hexd (u / 16), hexd (u % 16)]

set_option maxHeartbeats 800000 in
theorem fu48 (u : Nat) (h : u < 128) (w : World) (hc : w.cell? ⟨5, 15, none⟩ = some (.int .u8 4)) :
    Calls Tryd.prog 48 #[.int .u64 u, .int .i64 16] w fun e w' => e = .returned (.string ⟨(hexOf u).toArray⟩) ∧ Below w.heap.size w w' := by
  by_cases h16 : u < 16
  · have H := Lib.hid (show hexOf u = [hexd u] by unfold hexOf; rw [if_pos h16])
    go_enter Tryd.func48, Tryd.ntmps48
    go_wp2_with fail
    refine (fb_small u h16 _ hc).mono ?_
    rintro e w' ⟨rfl, hb⟩
    go_wp2
    go_ret
    exact ⟨by rw [H.out]; rfl, hb⟩
  · have H := Lib.hid (show hexOf u = [hexd (u / 16), hexd (u % 16)] by unfold hexOf; rw [if_neg h16])
    go_enter Tryd.func48, Tryd.ntmps48
    go_wp2_with fail
    refine (fb_two u (by omega) h _ hc).mono ?_
    rintro e w' ⟨rfl, hb⟩
    go_wp2
    go_ret
    exact ⟨by rw [H.out]; rfl, hb⟩

set_option maxHeartbeats 800000 in
theorem fu45 (u : Nat) (h : u < 128) (w : World) (hc : w.cell? ⟨5, 15, none⟩ = some (.int .u8 4)) :
    Calls Tryd.prog 45 #[.int .u64 u, .int .i64 16] w fun e w' => e = .returned (.string ⟨(hexOf u).toArray⟩) ∧ Below w.heap.size w w' := by
  go_enter Tryd.func45, Tryd.ntmps45
  go_wp2_with fail
  refine (fu48 u h _ hc).mono ?_
  rintro e w' ⟨rfl, hb⟩
  go_wp2
  go_ret
  exact ⟨rfl, hb⟩

set_option maxHeartbeats 800000 in
/-- zzHex AT TWO DIGITS. -/
theorem zzHex_two (u : Nat) (h : u < 128) (w : World) (hc : w.cell? ⟨5, 15, none⟩ = some (.int .u8 4)) :
    Calls Tryd.prog 36 #[.int .u64 u, .int .i64 2] w fun e w' => e = .returned (.string ⟨#[hexd (u / 16), hexd (u % 16)]⟩) ∧ Below w.heap.size w w' := by
  have hF := fun w => fu45 u h w
  by_cases h16 : u < 16
  · have e0 : hexOf u = [hexd u] := by unfold hexOf; rw [if_pos h16]
    rw [e0] at hF
    have e1 : hexd (u / 16) = 48 := by rw [Nat.div_eq_of_lt h16]; rfl
    have e2 : u % 16 = u := Nat.mod_eq_of_lt h16
    rw [e1, e2]
    clear e0 e1 e2 h16
    go_enter Tryd.func36, Tryd.ntmps36
    go_wp2_with fail
    refine (hF _ hc).mono ?_
    rintro e w' ⟨rfl, hb⟩
    go_wp2_with fail
    refine wp_loop_rounds 2 ?_
    rw [rounds_succ]
    go_wp2_with fail
    rw [rounds_succ]
    go_wp2
    go_ret
    exact ⟨rfl, hb⟩
  · have e0 : hexOf u = [hexd (u / 16), hexd (u % 16)] := by unfold hexOf; rw [if_neg h16]
    rw [e0] at hF
    clear e0 h16
    go_enter Tryd.func36, Tryd.ntmps36
    go_wp2_with fail
    refine (hF _ hc).mono ?_
    rintro e w' ⟨rfl, hb⟩
    go_wp2_with fail
    refine wp_loop_rounds 1 ?_
    rw [rounds_succ]
    go_wp2
    go_ret
    exact ⟨rfl, hb⟩
end Go.Proofs.YtmjlcgekkncaiaaDoor
