/- suitableQuote, QuoteSQLString, QuoteString: at ASCII the result is the literal. -/
import Derived.Test.YtmjlcgekkncaiaaDoorP
import Derived.Lib.ConvBytes
import Derived.Lib.AtoiErrMem
namespace Go.Proofs.YtmjlcgekkncaiaaDoor
open Go.RowKit

theorem contains_snoc (l : List UInt8) (c x : UInt8) : (l ++ [c]).contains x = (l.contains x || (x == c)) := by
  by_cases h : x = c <;> simp [h]

set_option maxHeartbeats 800000 in
set_option maxRecDepth 100000 in
theorem suitable_is (s : ByteArray) (hsz : s.size ≤ 1000) (rb cap : Nat) (w : World) (hcell : ∀ j, j < s.size → w.cell? ⟨rb, j, none⟩ = some (.int .u8 (s.data.toList.getD j 0).toNat)) :
    Calls Tryd.prog 13 #[.slice (some ⟨rb, 0, none⟩) s.size cap] w fun e w' => e = .returned (.int .i32 (markOf s.data.toList).toNat) ∧ w = w' := by
  have HC := Lib.hid hcell
  clear hcell
  go_enter Tryd.func13, Tryd.ntmps13
  go_wp2_with fail
  go_loop [3, 4, 9] (fun a b i => ∃ k : Nat, k ≤ s.size ∧ i = .int .i64 k ∧ a = .bool ((s.data.toList.take k).contains 39) ∧ b = .bool ((s.data.toList.take k).contains 34)) (fun _ _ i => s.size - (intOf i).toNat)
  case atStart => exact ⟨0, Nat.zero_le _, rfl, rfl, rfl⟩
  case round =>
    obtain ⟨k, hk, rfl, rfl, rfl⟩ := hrel
    by_cases hlt : k < s.size
    · have hlt' : k < s.data.toList.length := by rw [← Lib.size_eq]; exact hlt
      have hc := HC.out k hlt
      have e0 : s.data.toList.getD k 0 = s.data.toList[k] := by simp [List.getD, List.getElem?_eq_getElem hlt']
      rw [e0] at hc
      have hsn : ∀ x, (s.data.toList.take (k + 1)).contains x = ((s.data.toList.take k).contains x || (x == s.data.toList[k])) := fun x => by rw [take_snoc' _ k hlt', contains_snoc]
      have HSN := Lib.hid hsn
      clear hsn e0
      by_cases h39 : s.data.toList[k] = 39
      · have H := Lib.hid h39
        rw [h39] at hc
        clear h39
        go_wp2
        go_round
        case rel => exact ⟨k + 1, hlt, by go_num, by rw [HSN.out, H.out]; simp, by rw [HSN.out, H.out]; simp⟩
        case measure => simp [intOf]; omega
      · by_cases h34 : s.data.toList[k] = 34
        · have H := Lib.hid h34
          rw [h34] at hc
          clear h34 h39
          go_wp2
          go_round
          case rel => exact ⟨k + 1, hlt, by go_num, by rw [HSN.out, H.out]; simp, by rw [HSN.out, H.out]; simp⟩
          case measure => simp [intOf]; omega
        · have n1 : ¬ (s.data.toList[k].toNat : Int) = 39 := fun e => h39 (UInt8.toNat_inj.1 (by show _ = 39; omega))
          have n2 : ¬ (s.data.toList[k].toNat : Int) = 34 := fun e => h34 (UInt8.toNat_inj.1 (by show _ = 34; omega))
          have H39 := Lib.hid h39
          have H34 := Lib.hid h34
          clear h39 h34
          obtain ⟨c, hcc⟩ : ∃ c : Nat, s.data.toList[k].toNat = c := ⟨_, rfl⟩
          rw [hcc] at hc n1 n2
          clear hcc
          go_wp2
          go_round
          case rel => exact ⟨k + 1, hlt, by go_num, by rw [HSN.out, show ((39 : UInt8) == s.data.toList[k]) = false from beq_eq_false_iff_ne.2 (fun e => H39.out e.symm), Bool.or_false], by rw [HSN.out, show ((34 : UInt8) == s.data.toList[k]) = false from beq_eq_false_iff_ne.2 (fun e => H34.out e.symm), Bool.or_false]⟩
          case measure => simp [intOf]; omega
    · have hall : s.data.toList.take k = s.data.toList := List.take_of_length_le (by rw [← Lib.size_eq]; omega)
      have hm : (markOf s.data.toList) = if !s.data.toList.contains 39 && s.data.toList.contains 34 then 39 else 34 := rfl
      have HM := Lib.hid hm
      rw [hall]
      clear hall hm
      obtain ⟨b1, e1⟩ : ∃ b1, s.data.toList.contains 39 = b1 := ⟨_, rfl⟩
      obtain ⟨b2, e2⟩ : ∃ b2, s.data.toList.contains 34 = b2 := ⟨_, rfl⟩
      rw [e1, e2] at HM
      rw [e1, e2]
      clear e1 e2
      cases b1 <;> cases b2
      all_goals
        go_wp2
        go_ret
        exact ⟨by rw [HM.out]; rfl, rfl⟩
end Go.Proofs.YtmjlcgekkncaiaaDoor
