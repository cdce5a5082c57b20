/- FnStringMeans returns true for every string, wherever the tables of properties and of trailing zeros hold what their initialisers lay. -/
import Derived.Test.YtmjlcgekkncaiaaDoorH
import Derived.Test.YtmjlcgekkncaiaaDoorR
namespace Go.Proofs.YtmjlcgekkncaiaaDoor
open Go.RowKit

set_option maxHeartbeats 400000 in
theorem ascii_yes (s : ByteArray) (hasc : ∀ i (h : i < s.size), (s[i]'h).toNat < 128) (hsz : s.size ≤ 1000) (w : World) :
    Calls Tryd.prog 4 #[.string s] w fun e w' => e = .returned (.bool true) ∧ w = w' := by
  have HA := Lib.hid hasc
  clear hasc
  go_enter Tryd.func4, Tryd.ntmps4
  go_wp2_with fail
  go_loop [3] (fun i => ∃ k : Nat, k ≤ s.size ∧ i = .int .i64 k) (fun i => s.size - (intOf i).toNat)
  case atStart => exact ⟨0, Nat.zero_le _, rfl⟩
  case round =>
    obtain ⟨k, hk, rfl⟩ := hrel
    by_cases hlt : k < s.size
    · obtain ⟨c, hc⟩ : ∃ c : Int, ((s[k]'hlt).toNat : Int) = c := ⟨_, rfl⟩
      have hg : c < 128 := by have := HA.out k hlt; omega
      go_wp2
      go_round
      case rel => exact ⟨k + 1, hlt, by go_num⟩
      case measure => simp [intOf]; omega
    · go_wp2
      go_ret
      exact ⟨rfl, rfl⟩

set_option maxHeartbeats 400000 in
theorem ascii_no (s : ByteArray) (hno : ¬ ∀ i (h : i < s.size), (s[i]'h).toNat < 128) (hsz : s.size ≤ 1000) (w : World) :
    Calls Tryd.prog 4 #[.string s] w fun e w' => e = .returned (.bool false) ∧ w = w' := by
  have HN := Lib.hid hno
  clear hno
  go_enter Tryd.func4, Tryd.ntmps4
  go_wp2_with fail
  go_loop [3] (fun i => ∃ k : Nat, k ≤ s.size ∧ i = .int .i64 k ∧ Hid (∀ j (h : j < s.size), j < k → (s[j]'h).toNat < 128)) (fun i => s.size - (intOf i).toNat)
  case atStart => exact ⟨0, Nat.zero_le _, rfl, Lib.hid fun j _ hj => absurd hj (Nat.not_lt_zero j)⟩
  case round =>
    obtain ⟨k, hk, rfl, HG⟩ := hrel
    by_cases hlt : k < s.size
    · by_cases hg : (s[k]'hlt).toNat < 128
      · have HK := Lib.hid hg
        obtain ⟨c, hc⟩ : ∃ c : Int, ((s[k]'hlt).toNat : Int) = c := ⟨_, rfl⟩
        have hg' : c < 128 := by omega
        clear hg
        go_wp2
        go_round
        case rel =>
          refine ⟨k + 1, hlt, by go_num, Lib.hid fun j h hj => ?_⟩
          by_cases e : j = k
          · subst e; exact HK.out
          · exact HG.out j h (by omega)
        case measure => simp [intOf]; omega
      · obtain ⟨c, hc⟩ : ∃ c : Int, ((s[k]'hlt).toNat : Int) = c := ⟨_, rfl⟩
        have hg' : 128 ≤ c := by omega
        clear hg
        go_wp2
        go_ret
        exact ⟨rfl, rfl⟩
    · exact absurd (fun i h => HG.out i h (by omega)) HN.out

set_option maxHeartbeats 1600000 in
set_option maxRecDepth 100000 in
theorem means_any (s : ByteArray) (hsz : s.size ≤ maxLen) (w : World)
    (hP : ∀ r, r < 128 → w.cell? ⟨1, r, none⟩ = some (.int .u8 (propTab.getD r 0))) (hz : w.cell? ⟨5, 15, none⟩ = some (.int .u8 4)) :
    Calls Tryd.prog 3 #[.string s] w fun e w' => e = .returned (.bool true) ∧ Below w.heap.size w w' := by
  unfold maxLen at hsz
  by_cases h1 : 2147483647 < s.size
  · clear hP hz
    go_enter Tryd.func3, Tryd.ntmps3
    go_wp2
    go_ret
    exact ⟨rfl, Below.refl _ _⟩
  by_cases h2 : 1000 < s.size
  · clear hP hz
    go_enter Tryd.func3, Tryd.ntmps3
    go_wp2
    go_ret
    exact ⟨rfl, Below.refl _ _⟩
  by_cases ha : ∀ i (h : i < s.size), (s[i]'h).toNat < 128
  · have hA := ascii_yes s ha (by omega)
    have hQ := quoteString_ascii s ha (by omega) w hP hz
    obtain ⟨t, ht⟩ : ∃ t : ByteArray, (⟨(lit (markOf s.data.toList) s.data.toList).toArray⟩ : ByteArray) = t := ⟨_, rfl⟩
    have htl : t.data.toList = lit (markOf s.data.toList) s.data.toList := by rw [← ht]
    have hts : t.size ≤ 1000000 := by
      have h3 := (body_len (markOf s.data.toList) s.data.toList).2
      rw [Lib.size_eq, htl, lit_len]
      rw [← Lib.size_eq] at h3
      omega
    have hL := literal_lit (markOf s.data.toList) (markOf_or _) s.data.toList t htl hts
    rw [show (⟨s.data.toList.toArray⟩ : ByteArray) = s from Lib.mk_data s] at hL
    rw [ht] at hQ
    clear ha hP hz ht htl hts
    go_enter Tryd.func3, Tryd.ntmps3
    go_wp2_with fail
    refine (hA _).mono ?_
    rintro e w' ⟨rfl, rfl⟩
    go_wp2_with fail
    refine hQ.mono ?_
    rintro e W1 ⟨rfl, hb1⟩
    go_wp2_with fail
    refine (hL _).mono ?_
    rintro e W2 ⟨rfl, hb2⟩
    go_wp2
    go_ret
    exact ⟨rfl, hb1.trans (hb2.mono hb1.size)⟩
  · have hA := ascii_no s ha (by omega)
    clear ha hP hz
    go_enter Tryd.func3, Tryd.ntmps3
    go_wp2_with fail
    refine (hA _).mono ?_
    rintro e w' ⟨rfl, rfl⟩
    go_wp2
    go_ret
    exact ⟨rfl, Below.refl _ _⟩

end Go.Proofs.YtmjlcgekkncaiaaDoor
