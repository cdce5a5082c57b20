/- quoteSQLStringContent: the walk: at ASCII it writes, behind what the buffer holds, each byte's part of the literal. -/
import Derived.Test.YtmjlcgekkncaiaaDoorO
import Derived.Lib.IndexBytes
import Derived.Lib.SmallJoins
namespace Go.Proofs.YtmjlcgekkncaiaaDoor
open Go.RowKit

theorem body_snoc (q : UInt8) (s : ByteArray) (pos : Nat) (hp : pos < s.size) : body q (s.data.toList.take (pos + 1)) = body q (s.data.toList.take pos) ++ unit q s[pos] := by
  have hl : pos < s.data.toList.length := by rw [← Lib.size_eq]; exact hp
  have e : s.data.toList[pos] = s[pos] := by
    have := Lib.data_getElem? s pos hp
    rw [List.getElem?_eq_getElem hl] at this
    exact Option.some.inj this
  rw [take_snoc' _ pos hl, body_append, body_cons, body_nil, List.append_nil, e]

theorem byteCells_append' (a b : List UInt8) : Lib.byteCells (a ++ b) = Lib.byteCells a ++ Lib.byteCells b := by
  unfold Lib.byteCells
  exact List.map_append

set_option maxHeartbeats 3200000 in
set_option maxRecDepth 100000 in
theorem content_ascii (q : UInt8) (hq : q = 34 ∨ q = 39) (s : ByteArray) (hasc : ∀ i (h : i < s.size), (s[i]'h).toNat < 128) (hsz : s.size ≤ 1000)
    (B b : Nat) (acc : List UInt8) (hacc : acc.length ≤ 100) (w : World) (h : Lib.IsBuffer 42 5 B b (Lib.byteCells acc) w) (hB : 5 < B) (hBw : B ≤ w.heap.size)
    (hP : ∀ r, r < 128 → w.cell? ⟨1, r, none⟩ = some (.int .u8 (propTab.getD r 0))) (hz : w.cell? ⟨5, 15, none⟩ = some (.int .u8 4)) :
    Calls Tryd.prog 15 #[.string s, .int .i32 q.toNat, .pointer (some ⟨b, 0, none⟩)] w fun e w' => e = .returned (.tuple #[]) ∧ Lib.IsBuffer 42 5 B b (Lib.byteCells (acc ++ body q s.data.toList)) w' ∧ Below B w w' := by
  have HP := Lib.hid hP
  have HZ := Lib.hid hz
  have HA := Lib.hid hasc
  clear hP hz hasc
  have hI0 : Lib.IsBuffer 42 5 B b (Lib.byteCells (acc ++ body q (s.data.toList.take 0))) (w.iter s 0) := by
    rw [List.take_zero, body_nil, List.append_nil]
    exact h.alloc _
  have hk0 : (w.iter s 0).heap[w.heap.size]? = some (.stringIter s 0) := World.iter_heap w s 0
  have hb0 : Below B w (w.iter s 0) := (Below.refl _ w).alloc hBw _
  go_enter Tryd.func15, Tryd.ntmps15
  go_wp2_with fail
  go_loopw [7] (fun _ wr => ∃ pos : Nat, pos ≤ s.size ∧ wr.heap[w.heap.size]? = some (.stringIter s pos) ∧ Lib.IsBuffer 42 5 B b (Lib.byteCells (acc ++ body q (s.data.toList.take pos))) wr ∧ Below B w wr) (fun _ wr => s.size - wr.iterPos w.heap.size)
  case atStart => exact ⟨0, Nat.zero_le _, hk0, hI0, hb0⟩
  case round =>
    obtain ⟨pos, hps, hk, hI, hnx⟩ := hrel
    clear hI0 hk0 hb0 h
    by_cases hp : pos < s.size
    · have hc := HA.out pos hp
      have hways := byte_ways q s[pos] hq
      have HS := Lib.hid (body_snoc q s pos hp)
      have hbl : (acc ++ body q (s.data.toList.take pos)).length ≤ 4100 := by
        have h1 := (body_len q (s.data.toList.take pos)).2
        rw [List.length_append]
        have h2 : (s.data.toList.take pos).length ≤ pos := List.length_take_le _ _
        omega
      have hnext : ∀ ty, (Instr.next (.pointer (some ⟨w.heap.size, 0, none⟩)) true ty).run Tryd.prog wr = _ := fun ty => Lib.run_next_ascii_at wr w.heap.size s pos ty hk hp hc
      have hI1 := hI.iterAt hk (pos + 1)
      have hk1 := Lib.iterAt_heap wr w.heap.size s pos (pos + 1) hk
      have hnx1 : Below B w (wr.iterAt w.heap.size s (pos + 1)) := Lib.below_iterAt hnx hBw s (pos + 1)
      have hmu : wr.iterPos w.heap.size = pos := by simp [World.iterPos, hk]
      generalize wr.iterAt w.heap.size s (pos + 1) = W1 at hnext hI1 hk1 hnx1
      have HP1 : Hid (∀ r, r < 128 → W1.cell? ⟨1, r, none⟩ = some (.int .u8 (propTab.getD r 0))) := Lib.hid fun r hr => (hnx1.cell (p := ⟨1, r, none⟩) (by show 1 < B; omega)).trans (HP.out r hr)
      have HZ1 : Hid (W1.cell? ⟨5, 15, none⟩ = some (.int .u8 4)) := Lib.hid ((hnx1.cell (p := ⟨5, 15, none⟩) (by show 5 < B; omega)).trans HZ.out)
      have hws : B ≤ W1.heap.size := by have := hnx1.size; omega
      have HMU := Lib.hid hmu
      have HK1 := Lib.hid hk1
      clear hmu hk1 hI hk hnx
      rcases hways with ⟨hu, n1, n2, n3, n4, n5, n6, n7⟩ | ⟨y, hu, hS⟩ | ⟨hu, n1, n2, n3, n4, n5, n6⟩
      · have HU := Lib.hid hu
        clear hu
        have hpr := isPrint_ascii s[pos].toNat hc W1 HP1.out
        rw [decide_eq_true (show 32 ≤ s[pos].toNat ∧ s[pos].toNat ≤ 126 from ⟨n6, n7⟩)] at hpr
        go_wp2_with fail
        refine (single_none _ _ n1 n2 n3 n4 n5 _).mono ?_
        rintro e w' ⟨rfl, rfl⟩
        go_wp2_with fail
        refine hpr.mono ?_
        rintro e w' ⟨rfl, rfl⟩
        go_wp2_with fail
        refine (Tryd.Buffer_WriteRune_k B b _ _ (by omega) (by omega) _ hI1 hws (Lib.byteCells_one _) (by rw [Lib.byteCells_length]; omega)).mono ?_
        rintro e W2 ⟨rfl, hI2, hb2, hk2⟩
        have hit2 := hk2.iter HK1.out (hI1.ne_iter HK1.out)
        have HIT2 := Lib.hid hit2
        clear hit2 hk2
        go_wp2
        go_roundw
        case rel =>
          refine ⟨pos + 1, hp, HIT2.out, ?_, hnx1.trans hb2⟩
          rw [HS.out, HU.out, ← List.append_assoc, byteCells_append']
          have e1 : Lib.runeCells (s[pos].toNat : Int) = Lib.byteCells [s[pos]] := by simp [Lib.runeCells, Lib.byteCells, Lib.encodeRuneZ_one (show (0 : Int) ≤ (s[pos].toNat : Int) by omega) (by omega)]
          rw [← e1]
          exact hI2
        case measure =>
          have hmu2 : W2.iterPos w.heap.size = pos + 1 := by simp [World.iterPos, HIT2.out]
          rw [HMU.out, hmu2]
          omega
      · have HU := Lib.hid hu
        clear hu
        go_wp2_with fail
        refine (hS _).mono ?_
        rintro e w' ⟨rfl, rfl⟩
        go_wp2_with fail
        refine (Tryd.Buffer_WriteString_k B b _ _ _ hI1 hws (Lib.byteCells_one _) (by rw [Lib.byteCells_length]; exact Nat.le_trans (Nat.add_le_add hbl (show (2 : Nat) ≤ 10 by decide)) (by decide))).mono ?_
        rintro e W2 ⟨rfl, hI2, hb2, hk2⟩
        have hit2 := hk2.iter HK1.out (hI1.ne_iter HK1.out)
        have HIT2 := Lib.hid hit2
        clear hit2 hk2
        go_wp2
        go_roundw
        case rel =>
          refine ⟨pos + 1, hp, HIT2.out, ?_, hnx1.trans hb2⟩
          rw [HS.out, HU.out, ← List.append_assoc, byteCells_append']
          exact hI2
        case measure =>
          have hmu2 : W2.iterPos w.heap.size = pos + 1 := by simp [World.iterPos, HIT2.out]
          rw [HMU.out, hmu2]
          omega
      · have HU := Lib.hid hu
        clear hu
        have hpr := isPrint_ascii s[pos].toNat hc W1 HP1.out
        rw [decide_eq_false n6] at hpr
        have hzx := zzHex_two s[pos].toNat hc W1 HZ1.out
        clear n6
        go_wp2_with fail
        refine (single_none _ _ n1 n2 n3 n4 n5 _).mono ?_
        rintro e w' ⟨rfl, rfl⟩
        go_wp2_with fail
        refine hpr.mono ?_
        rintro e w' ⟨rfl, rfl⟩
        go_wp2_with fail
        refine hzx.mono ?_
        rintro e W2 ⟨rfl, hbz⟩
        have hI2 := hI1.old hbz
        have hk2' := (hbz.block w.heap.size (Array.getElem?_eq_some_iff.1 HK1.out).1).trans HK1.out
        have HK2 := Lib.hid hk2'
        have hnx2 : Below B w W2 := hnx1.trans (hbz.mono hws)
        have hws2 : B ≤ W2.heap.size := by have := hbz.size; omega
        clear hk2' hbz hpr hzx
        go_wp2_with fail
        refine (Tryd.Buffer_WriteString_k B b _ _ _ hI2 hws2 (Lib.byteCells_one _) (by rw [Lib.byteCells_length]; exact Nat.le_trans (Nat.add_le_add hbl (show _ ≤ 10 by rw [ByteArray.size_append]; exact (show (2 : Nat) + 2 ≤ 10 by decide))) (by decide))).mono ?_
        rintro e W3 ⟨rfl, hI3, hb3, hk3⟩
        have hit3 := hk3.iter HK2.out (hI2.ne_iter HK2.out)
        have HIT3 := Lib.hid hit3
        clear hit3 hk3
        go_wp2
        go_roundw
        case rel =>
          refine ⟨pos + 1, hp, HIT3.out, ?_, hnx2.trans hb3⟩
          rw [HS.out, HU.out, ← List.append_assoc, byteCells_append']
          exact hI3
        case measure =>
          have hmu3 : W3.iterPos w.heap.size = pos + 1 := by simp [World.iterPos, HIT3.out]
          rw [HMU.out, hmu3]
          omega
    · have hnext : ∀ ty, (Instr.next (.pointer (some ⟨w.heap.size, 0, none⟩)) true ty).run Tryd.prog wr = _ := fun ty => Lib.run_next_end_at wr w.heap.size s pos ty hk hp
      have hall : s.data.toList.take pos = s.data.toList := List.take_of_length_le (by rw [← Lib.size_eq]; omega)
      rw [hall] at hI
      clear hall
      go_wp2
      go_end0
      exact ⟨rfl, hI, hnx⟩

end Go.Proofs.YtmjlcgekkncaiaaDoor
