/- QuoteSQLString, QuoteString: at ASCII the result is the literal. -/
import Derived.Test.YtmjlcgekkncaiaaDoorQ
namespace Go.Proofs.YtmjlcgekkncaiaaDoor
open Go.RowKit

theorem rune_cell (q : UInt8) (hq : q = 34 ∨ q = 39) : Lib.runeCells (q.toNat : Int) = Lib.byteCells [q] := by
  rcases hq with rfl | rfl <;> rfl

set_option maxHeartbeats 3200000 in
set_option maxRecDepth 100000 in
theorem quoteSQL_ascii (s : ByteArray) (hasc : ∀ i (h : i < s.size), (s[i]'h).toNat < 128) (hsz : s.size ≤ 1000) (w : World)
    (hP : ∀ r, r < 128 → w.cell? ⟨1, r, none⟩ = some (.int .u8 (propTab.getD r 0))) (hz : w.cell? ⟨5, 15, none⟩ = some (.int .u8 4)) :
    Calls Tryd.prog 8 #[.string s] w fun e w' => e = .returned (.string ⟨(lit (markOf s.data.toList) s.data.toList).toArray⟩) ∧ Below w.heap.size w w' := by
  have h5 : 5 < w.heap.size := World.block_lt_of_cell? w _ hz
  have hcv := Lib.run_convert_string_bytes (P := Tryd.prog) w 9 38 5 s (u := .string) Tryd.underlying9 Tryd.underlying38 Tryd.underlying5
  have hb1 := Lib.bytesWorld_below w 5 s
  have hcell := Lib.bytesWorld_cell w 5 s
  have hw1 := Lib.bytesWorld_size w 5 s
  generalize Lib.bytesWorld w 5 s = W1 at hcv hb1 hcell hw1
  have hS := suitable_is s hsz w.heap.size (grownCap w s.size 0 5) W1 hcell
  have hP1 : ∀ r, r < 128 → W1.cell? ⟨1, r, none⟩ = some (.int .u8 (propTab.getD r 0)) := fun r hr => (hb1.cell (p := ⟨1, r, none⟩) (by show 1 < _; omega)).trans (hP r hr)
  have hz1 : W1.cell? ⟨5, 15, none⟩ = some (.int .u8 4) := (hb1.cell (p := ⟨5, 15, none⟩) h5).trans hz
  have HP := Lib.hid hP1
  have HZ := Lib.hid hz1
  have HA := Lib.hid hasc
  have hq := markOf_or s.data.toList
  have hI0 := Lib.fresh_isBuffer 42 5 W1
  have hsW : w.heap.size < W1.heap.size := by omega
  clear hP hz hP1 hz1 hasc hcell hw1
  obtain ⟨q, hm⟩ : ∃ q, markOf s.data.toList = q := ⟨_, rfl⟩
  rw [hm] at hS hq
  have HM := Lib.hid hm
  clear hm
  go_enter Tryd.func8, Tryd.ntmps8
  go_wp2_with fail
  refine hS.mono ?_
  rintro e w' ⟨rfl, rfl⟩
  clear hS hcv
  go_wp2_with fail
  refine (Tryd.Buffer_WriteRune_k W1.heap.size W1.heap.size [] _ (by omega) (by rcases hq with rfl | rfl <;> decide) _ hI0 (by simp) (by simp) (by decide)).mono ?_
  rintro e W2 ⟨rfl, hI1, hb2, -⟩
  rw [List.nil_append, rune_cell q hq] at hI1
  have hb12 : Below W1.heap.size W1 W2 := ((Below.refl _ _).alloc (Nat.le_refl _) _).trans hb2
  have hws2 : W1.heap.size ≤ W2.heap.size := hb12.size
  have hC := content_ascii q hq s HA.out hsz W1.heap.size W1.heap.size [q] (by simp) W2 hI1 (by omega) hws2
    (fun r hr => (hb12.cell (p := ⟨1, r, none⟩) (by show 1 < _; omega)).trans (HP.out r hr)) ((hb12.cell (p := ⟨5, 15, none⟩) (by show 5 < _; omega)).trans HZ.out)
  clear hI0 hI1 hb2
  go_wp2_with fail
  refine hC.mono ?_
  rintro e W3 ⟨rfl, hI3, hb3⟩
  have hb13 := hb12.trans hb3
  have hws3 : W1.heap.size ≤ W3.heap.size := hb13.size
  have hbl : ([q] ++ body q s.data.toList).length ≤ 4100 := by
    have h1 := (body_len q s.data.toList).2
    rw [← Lib.size_eq] at h1
    simp
    omega
  clear hC hb12 hb3
  go_wp2_with fail
  refine (Tryd.Buffer_WriteRune_k W1.heap.size W1.heap.size _ _ (by omega) (by rcases hq with rfl | rfl <;> decide) _ hI3 hws3 (Lib.byteCells_one _) (by rw [Lib.byteCells_length]; omega)).mono ?_
  rintro e W4 ⟨rfl, hI4, hb4, -⟩
  rw [rune_cell q hq, ← byteCells_append'] at hI4
  have hb14 := hb13.trans hb4
  clear hI3 hb4 hb13
  go_wp2_with fail
  refine (Tryd.Buffer_String W1.heap.size W1.heap.size _ _ hI4).mono ?_
  rintro e W5 ⟨rfl, n, rfl⟩
  go_wp2
  go_ret
  refine ⟨?_, (hb1.trans (hb14.mono (by omega))).trans ⟨rfl, rfl, rfl, Nat.le_refl _, fun _ _ => rfl⟩⟩
  rw [HM.out]
  simp [lit]

set_option maxHeartbeats 400000 in
theorem quoteString_ascii (s : ByteArray) (hasc : ∀ i (h : i < s.size), (s[i]'h).toNat < 128) (hsz : s.size ≤ 1000) (w : World)
    (hP : ∀ r, r < 128 → w.cell? ⟨1, r, none⟩ = some (.int .u8 (propTab.getD r 0))) (hz : w.cell? ⟨5, 15, none⟩ = some (.int .u8 4)) :
    Calls Tryd.prog 6 #[.string s] w fun e w' => e = .returned (.string ⟨(lit (markOf s.data.toList) s.data.toList).toArray⟩) ∧ Below w.heap.size w w' := by
  have hQ := quoteSQL_ascii s hasc hsz w hP hz
  clear hasc hP hz
  go_enter Tryd.func6, Tryd.ntmps6
  go_wp2_with fail
  refine hQ.mono ?_
  rintro e W1 ⟨rfl, hb⟩
  go_wp2
  go_ret
  exact ⟨rfl, hb⟩

end Go.Proofs.YtmjlcgekkncaiaaDoor
