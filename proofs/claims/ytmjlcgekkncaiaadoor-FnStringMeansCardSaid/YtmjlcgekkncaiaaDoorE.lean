/- Quoted: the literal is read to its end, and its value is the string. -/
import Derived.Test.YtmjlcgekkncaiaaDoorD
import Derived.Test.YtmjlcgekkncaiaaDoorL
import Derived.Lib.IndexBytes
import Derived.Lib.ItoaWalk
import Derived.Lib.BufferRead
namespace Go.Proofs.YtmjlcgekkncaiaaDoor
open Go.RowKit

theorem info5 : (Tryd.prog.info? 5).map (fun i => (i.zero, i.size, i.bytes)) = some (some (.int .u8 0), 1, 1) := by kernel_rfl

/-- A literal of one mark does not begin with three. -/
theorem starts_triple (q : UInt8) (hq : q = 34 ∨ q = 39) (l : List UInt8) : startsB (lit q l) [q, q, q] 0 = false := by
  cases l with
  | nil => unfold startsB; simp [lit, body]
  | cons c l =>
    obtain ⟨x, t, hu, hx⟩ := unit_head q c hq
    unfold startsB lit
    rw [body_cons, hu]
    simp [hx]

/-- Whether the mark stands at a place. -/
theorem starts_mark (L : List UInt8) (q x : UInt8) (a : Nat) (t : List UInt8) (h : L.drop a = x :: t) : startsB L [q] a = (x == q) := by
  unfold startsB
  have hl : a + 1 ≤ L.length := by
    have := congrArg List.length h
    simp at this
    omega
  rw [h]
  simp [hl]

/-- A byte that stands behind a place. -/
theorem at_drop (s : ByteArray) (p j : Nat) (x : UInt8) (h : (s.data.toList.drop p)[j]? = some x) : ∃ hh : p + j < s.size, s[p + j]'hh = x := by
  rw [List.getElem?_drop] at h
  obtain ⟨hh, hx⟩ := List.getElem?_eq_some_iff.1 h
  have h2 : p + j < s.size := by rw [Lib.size_eq]; exact hh
  exact ⟨h2, by have := Lib.data_getElem? s (p + j) h2; rw [List.getElem?_eq_getElem hh, hx] at this; exact (Option.some.inj this).symm⟩

theorem at_drop_int (s : ByteArray) (p j : Nat) (x : UInt8) (h : (s.data.toList.drop p)[j]? = some x) : ∃ hh : p + j < s.size, ((s[p + j]'hh).toNat : Int) = (x.toNat : Int) := by
  obtain ⟨hh, hx⟩ := at_drop s p j x h
  exact ⟨hh, by rw [hx]⟩

theorem hexd_is (n : Nat) (h : n < 16) : HexIs ((hexd n).toNat : Int) n := by
  have h' : n = 0 ∨ n = 1 ∨ n = 2 ∨ n = 3 ∨ n = 4 ∨ n = 5 ∨ n = 6 ∨ n = 7 ∨ n = 8 ∨ n = 9 ∨ n = 10 ∨ n = 11 ∨ n = 12 ∨ n = 13 ∨ n = 14 ∨ n = 15 := by omega
  rcases h' with rfl | rfl | rfl | rfl | rfl | rfl | rfl | rfl | rfl | rfl | rfl | rfl | rfl | rfl | rfl | rfl
  all_goals first | exact .inl (by decide) | exact .inr (by decide)

/-- Escape AT A PART OF A LITERAL THAT BEGINS WITH A BACKSLASH: the byte, and where the part ends. -/
theorem escape_part (q : UInt8) (hq : q = 34 ∨ q = 39) (c : UInt8) (s : ByteArray) (p p' : Nat) (t : List UInt8) (hsz : s.size ≤ 1000000)
    (h : s.data.toList.drop p = unit q c ++ t) (hn : unit q c ≠ [c] ∨ c = 92) (hp' : p' = p + (unit q c).length) (w : World) :
    Calls Tryd.prog 37 #[.string s, .int .i64 p, .bool false] w fun e w' => e = .returned (.tuple #[.slice (some ⟨w.heap.size, 0, none⟩) 1 1, .int .i64 p', .bool true]) ∧ w.alloc (.cells #[.int .u8 c.toNat] 5) = w' := by
  subst hp'
  have two : ∀ x : UInt8, unit q c = [92, x] → ∃ hh : p + 1 < s.size, ((s[p + 1]'hh).toNat : Int) = (x.toNat : Int) := fun x hu => at_drop_int s p 1 x (by rw [h, hu]; rfl)
  rcases part q c with ⟨hu, _, h92, _⟩ | ⟨hu, rfl⟩ | ⟨hu, rfl⟩ | ⟨hu, rfl⟩ | ⟨hu, rfl⟩ | ⟨hu, rfl⟩ | hu
  · rcases hn with hn | hn
    · exact absurd hu hn
    · exact absurd hn h92
  · obtain ⟨hh, hx⟩ := two c hu
    rw [hu]
    rcases hq with rfl | rfl
    · exact escape_34 s p hsz hh hx w
    · exact escape_39 s p hsz hh hx w
  · obtain ⟨hh, hx⟩ := two 110 hu
    rw [hu]
    exact escape_110 s p hsz hh hx w
  · obtain ⟨hh, hx⟩ := two 114 hu
    rw [hu]
    exact escape_114 s p hsz hh hx w
  · obtain ⟨hh, hx⟩ := two 116 hu
    rw [hu]
    exact escape_116 s p hsz hh hx w
  · obtain ⟨hh, hx⟩ := two 92 hu
    rw [hu]
    exact escape_92 s p hsz hh hx w
  · have hc := c.toNat_lt
    have g1 : (s.data.toList.drop p)[1]? = some 120 := by rw [h, hu]; rfl
    have g2 : (s.data.toList.drop p)[2]? = some (hexd (c.toNat / 16)) := by rw [h, hu]; rfl
    have g3 : (s.data.toList.drop p)[3]? = some (hexd (c.toNat % 16)) := by rw [h, hu]; rfl
    obtain ⟨i1, x1⟩ := at_drop_int s p 1 _ g1
    obtain ⟨i2, x2⟩ := at_drop_int s p 2 _ g2
    obtain ⟨i3, x3⟩ := at_drop_int s p 3 _ g3
    rw [hu]
    have hv : (16 * ((c.toNat / 16 : Nat) : Int) + ((c.toNat % 16 : Nat) : Int)) = (c.toNat : Int) := by omega
    rw [← hv]
    exact escape_x s p hsz i3 x1 _ _ (by rw [x2]; exact hexd_is _ (by omega)) (by rw [x3]; exact hexd_is _ (by omega)) w

/-- WHAT A ROUND OF Quoted MEETS: at the k-th byte's part: no mark; the byte itself, or a backslash with what Escape reads behind it. -/
theorem round_facts (q : UInt8) (hq : q = 34 ∨ q = 39) (l : List UInt8) (s : ByteArray) (hs : s.data.toList = lit q l) (hsz : s.size ≤ 1000000) (k : Nat) (hlt : k < l.length) :
    ∃ (p p' : Nat) (hh : p < s.size), placeAt q l k = p ∧ placeAt q l (k + 1) = p' ∧ p + 1 ≤ p' ∧ p' + 1 ≤ s.size ∧ startsB s.data.toList [q] p = false ∧
      Lib.byteCells (l.take (k + 1)) = Lib.byteCells (l.take k) ++ [.int .u8 (l[k].toNat : Int)] ∧
      ((p' = p + 1 ∧ ((s[p]'hh).toNat : Int) = (l[k].toNat : Int) ∧ ¬ (l[k].toNat : Int) = 92 ∧ ¬ (l[k].toNat : Int) = 10 ∧ ¬ (l[k].toNat : Int) = 13) ∨
       (((s[p]'hh).toNat : Int) = 92 ∧ ∀ w, Calls Tryd.prog 37 #[.string s, .int .i64 p, .bool false] w fun e w' => e = .returned (.tuple #[.slice (some ⟨w.heap.size, 0, none⟩) 1 1, .int .i64 p', .bool true]) ∧ w.alloc (.cells #[.int .u8 l[k].toNat] 5) = w')) := by
  have hu := lit_drop_at q l k hlt
  rw [← hs] at hu
  obtain ⟨x, t, hxt, hxq⟩ := unit_head q l[k] hq
  have hst : startsB s.data.toList [q] (placeAt q l k) = false := by
    rw [starts_mark _ _ x _ _ (by rw [hu, hxt]; rfl)]
    simpa using hxq
  have hps := placeAt_succ q l k hlt
  have hpl2 := placeAt_le q l (k + 1)
  rw [← hs, ← Lib.size_eq] at hpl2
  have hul := unit_len q l[k]
  have hsn : Lib.byteCells (l.take (k + 1)) = Lib.byteCells (l.take k) ++ [.int .u8 (l[k].toNat : Int)] := by
    rw [take_snoc' l k hlt]
    unfold Lib.byteCells
    rw [List.map_append]
    rfl
  obtain ⟨hh, hx0⟩ := at_drop_int s (placeAt q l k) 0 x (by rw [hu, hxt]; rfl)
  refine ⟨_, _, hh, rfl, rfl, by omega, hpl2, hst, hsn, ?_⟩
  by_cases hplain : unit q l[k] = [l[k]] ∧ l[k] ≠ 92
  · refine .inl ?_
    obtain ⟨h1, h92⟩ := hplain
    rw [h1] at hxt hps
    have hxe : x = l[k] := by simp at hxt; exact hxt.1.symm
    have ne : ∀ y : UInt8, l[k] ≠ y → ¬ (l[k].toNat : Int) = (y.toNat : Int) := fun y h e => h (UInt8.toNat_inj.1 (by omega))
    have hc10 : l[k] ≠ 10 := fun e => by
      rw [e] at h1
      rcases hq with rfl | rfl <;> exact absurd h1 (by decide)
    have hc13 : l[k] ≠ 13 := fun e => by
      rw [e] at h1
      rcases hq with rfl | rfl <;> exact absurd h1 (by decide)
    exact ⟨hps, by rw [← hxe]; exact hx0, ne 92 h92, ne 10 hc10, ne 13 hc13⟩
  · refine .inr ⟨?_, fun w => escape_part q hq l[k] s _ _ _ hsz hu (by by_cases h : unit q l[k] = [l[k]]; exact .inr (Classical.byContradiction fun e => hplain ⟨h, e⟩); exact .inl h) hps w⟩
    have hx92 : x = 92 := by
      rcases part q l[k] with ⟨h1, h92, h93, _⟩ | ⟨h1, _⟩ | ⟨h1, _⟩ | ⟨h1, _⟩ | ⟨h1, _⟩ | ⟨h1, _⟩ | h1
      · exact absurd ⟨h1, h93⟩ hplain
      all_goals (rw [h1] at hxt; simp at hxt; exact hxt.1.symm)
    rw [hx0, hx92]
    rfl

theorem end_facts (q : UInt8) (l : List UInt8) (s : ByteArray) (hs : s.data.toList = lit q l) :
    ∃ (p : Nat), placeAt q l l.length = p ∧ p + 1 = s.size ∧ startsB s.data.toList [q] p = true := by
  refine ⟨_, rfl, ?_, ?_⟩
  · rw [placeAt_end, Lib.size_eq, hs]
  · rw [starts_mark _ _ q _ [] (by rw [hs, lit_drop_end])]
    simp

/-- 'string(v)' where v owns the bytes l. -/
theorem conv_own {w : World} {B : Nat} {v : Value} {l : List UInt8} (hown : w.ownsRow B 5 1 v l.length (Lib.byteCells l)) : (convert 38 9 v).run Tryd.prog w = .ok (.string ⟨l.toArray⟩) w := by
  rcases id hown.2 with ⟨rfl, hn⟩ | ⟨g, cap, cur, rfl, _⟩
  · have hl : l = [] := List.eq_nil_of_length_eq_zero hn
    subst hl
    exact Lib.run_convert_nil_bytes w 38 9 5 0 Tryd.underlying38 Tryd.underlying5 Tryd.underlying9
  · exact run_convert_bytes_back w 38 9 5 ⟨g, 0, none⟩ cap l Tryd.underlying38 Tryd.underlying5 Tryd.underlying9 (fun j hj => hown.cells rfl j _ (by simp [Lib.byteCells, hj]))

set_option maxHeartbeats 1600000 in
set_option maxRecDepth 100000 in
theorem quoted_34 (l : List UInt8) (s : ByteArray) (hs : s.data.toList = lit 34 l) (hsz : s.size ≤ 1000000) (w : World) :
    Calls Tryd.prog 21 #[.string s, .int .i64 0, .bool false, .bool false] w fun e w' => e = .returned (.tuple #[.string ⟨l.toArray⟩, .int .i64 s.size, .bool true]) ∧ Below w.heap.size w w' := by
  have h2 : 2 ≤ s.size := by rw [Lib.size_eq, hs, lit_len]; omega
  have hks : l.length ≤ 1000000 := by
    have h5 := (body_len 34 l).1
    have h6 := lit_len 34 l
    rw [← hs, ← Lib.size_eq] at h6
    omega
  have hx : s.extract 0 1 = ⟨#[34]⟩ := by
    rw [Lib.extract_eq, hs]; rfl
  have h3 := starts_triple 34 (by decide) l
  rw [← hs] at h3
  have H3 := Lib.hid h3
  have HS := Lib.hid hs
  clear hs h3
  go_enter Tryd.func21, Tryd.ntmps21
  go_wp2_with fail
  refine (lStarts_is s _ 0 hsz (by decide) (Nat.zero_le _) false H3.out _).mono ?_
  rintro e w' ⟨rfl, rfl⟩
  clear H3 hx
  go_wp2_with fail
  go_loopw [12, 13] (fun v i wr => ∃ k : Nat, k ≤ l.length ∧ i = .int .i64 (placeAt 34 l k) ∧ wr.ownsRow w.heap.size 5 1 v k (Lib.byteCells (l.take k)) ∧ Below w.heap.size w wr) (fun _ i _ => s.size - (intOf i).toNat)
  case atStart => exact ⟨0, Nat.zero_le _, rfl, World.ownsRow_nil _ _ _ _, Below.refl _ _⟩
  case round =>
    obtain ⟨k, hk, rfl, hown, hbw⟩ := hrel
    obtain ⟨i0, hi, hz0, hz1, hz2⟩ := info_parts info5
    have hws := hbw.size
    by_cases hlt : k < l.length
    · obtain ⟨p, p', hh, hp, hp', h1, h6, hst, hsn, hways⟩ := round_facts 34 (by decide) l s HS.out hsz k hlt
      have HP' := Lib.hid hp'
      have HSN := Lib.hid hsn
      have HST := Lib.hid hst
      rw [hp]
      clear hp hp' hsn hst HS
      obtain ⟨c, hc⟩ : ∃ c : Nat, l[k].toNat = c := ⟨_, rfl⟩
      rw [hc] at hways
      have HC := Lib.hid hc
      clear hc
      rcases hways with ⟨e1, e2, e3, e4, e5⟩ | ⟨e1, e2⟩
      · have HE := Lib.hid e1
        clear e1
        go_wp2_with fail
        refine (lStarts_is s ⟨#[34]⟩ p hsz (by decide) (by omega) false HST.out _).mono ?_
        rintro e w' ⟨rfl, rfl⟩
        go_wp2_with (at_builtin; refine wpList_append_own _ rfl _ _ 38 rfl w.heap.size 5 i0 (.int .u8 0) 1 1 Tryd.underlying38 hi hz0 hz1 hz2 rfl (by decide) _ _ _ rfl (hown.alloc _) ⟨wr.heap.size, 0, none⟩ 1 1 [.int .u8 c] rfl rfl ?c1 ?c2 ?c3 ?c4 ?c5 ?_)
        case c1 => exact cell_one_new _ _ _
        case c2 => simp [Value.oneCell']
        case c3 => unfold maxLen; omega
        case c4 => omega
        case c5 => simp; omega
        intro v' w1 hown1 hgrow1 _
        go_wp2
        go_roundw
        case rel =>
          refine ⟨k + 1, hlt, ?_, ?_, ?_⟩
          · rw [HP'.out, HE.out]; go_num
          · rw [HSN.out, HC.out]; exact hown1
          · exact (hbw.alloc hws _).grown hgrow1 (by simp; omega) (fun j hj => (hown.lt j hj).1)
        case measure => simp [intOf]; omega
      · have HE := Lib.hid e2
        clear e2
        go_wp2_with fail
        refine (lStarts_is s ⟨#[34]⟩ p hsz (by decide) (by omega) false HST.out _).mono ?_
        rintro e w' ⟨rfl, rfl⟩
        go_wp2_with fail
        refine (HE.out _).mono ?_
        rintro e w' ⟨rfl, rfl⟩
        go_wp2_with (at_builtin; refine wpList_append_own _ rfl _ _ 38 rfl w.heap.size 5 i0 (.int .u8 0) 1 1 Tryd.underlying38 hi hz0 hz1 hz2 rfl (by decide) _ _ _ rfl (hown.alloc _) ⟨wr.heap.size, 0, none⟩ 1 1 [.int .u8 c] rfl rfl ?d1 ?d2 ?d3 ?d4 ?d5 ?_)
        case d1 => exact cell_one_new _ _ _
        case d2 => simp [Value.oneCell']
        case d3 => unfold maxLen; omega
        case d4 => omega
        case d5 => simp; omega
        intro v' w1 hown1 hgrow1 _
        go_wp2
        go_roundw
        case rel =>
          refine ⟨k + 1, hlt, ?_, ?_, ?_⟩
          · rw [HP'.out]
          · rw [HSN.out, HC.out]; exact hown1
          · exact (hbw.alloc hws _).grown hgrow1 (by simp; omega) (fun j hj => (hown.lt j hj).1)
        case measure => simp [intOf]; omega
    · obtain rfl : k = l.length := by omega
      obtain ⟨p, hp, hps, hst⟩ := end_facts 34 l s HS.out
      have HPS := Lib.hid hps
      have HST := Lib.hid hst
      have hlp : p < s.size := by omega
      rw [hp]
      rw [List.take_length] at hown
      have hcv := conv_own hown
      clear hp hps hst HS hlt hk hown
      go_wp2_with fail
      refine (lStarts_is s ⟨#[34]⟩ p hsz (by decide) (by omega) true HST.out _).mono ?_
      rintro e w' ⟨rfl, rfl⟩
      go_wp2
      go_ret3
      exact ⟨by rw [← HPS.out]; simp, hbw⟩

set_option maxHeartbeats 1600000 in
set_option maxRecDepth 100000 in
theorem quoted_39 (l : List UInt8) (s : ByteArray) (hs : s.data.toList = lit 39 l) (hsz : s.size ≤ 1000000) (w : World) :
    Calls Tryd.prog 21 #[.string s, .int .i64 0, .bool false, .bool false] w fun e w' => e = .returned (.tuple #[.string ⟨l.toArray⟩, .int .i64 s.size, .bool true]) ∧ Below w.heap.size w w' := by
  have h2 : 2 ≤ s.size := by rw [Lib.size_eq, hs, lit_len]; omega
  have hks : l.length ≤ 1000000 := by
    have h5 := (body_len 39 l).1
    have h6 := lit_len 39 l
    rw [← hs, ← Lib.size_eq] at h6
    omega
  have hx : s.extract 0 1 = ⟨#[39]⟩ := by
    rw [Lib.extract_eq, hs]; rfl
  have h3 := starts_triple 39 (by decide) l
  rw [← hs] at h3
  have H3 := Lib.hid h3
  have HS := Lib.hid hs
  clear hs h3
  go_enter Tryd.func21, Tryd.ntmps21
  go_wp2_with fail
  refine (lStarts_is s _ 0 hsz (by decide) (Nat.zero_le _) false H3.out _).mono ?_
  rintro e w' ⟨rfl, rfl⟩
  clear H3 hx
  go_wp2_with fail
  go_loopw [12, 13] (fun v i wr => ∃ k : Nat, k ≤ l.length ∧ i = .int .i64 (placeAt 39 l k) ∧ wr.ownsRow w.heap.size 5 1 v k (Lib.byteCells (l.take k)) ∧ Below w.heap.size w wr) (fun _ i _ => s.size - (intOf i).toNat)
  case atStart => exact ⟨0, Nat.zero_le _, rfl, World.ownsRow_nil _ _ _ _, Below.refl _ _⟩
  case round =>
    obtain ⟨k, hk, rfl, hown, hbw⟩ := hrel
    obtain ⟨i0, hi, hz0, hz1, hz2⟩ := info_parts info5
    have hws := hbw.size
    by_cases hlt : k < l.length
    · obtain ⟨p, p', hh, hp, hp', h1, h6, hst, hsn, hways⟩ := round_facts 39 (by decide) l s HS.out hsz k hlt
      have HP' := Lib.hid hp'
      have HSN := Lib.hid hsn
      have HST := Lib.hid hst
      rw [hp]
      clear hp hp' hsn hst HS
      obtain ⟨c, hc⟩ : ∃ c : Nat, l[k].toNat = c := ⟨_, rfl⟩
      rw [hc] at hways
      have HC := Lib.hid hc
      clear hc
      rcases hways with ⟨e1, e2, e3, e4, e5⟩ | ⟨e1, e2⟩
      · have HE := Lib.hid e1
        clear e1
        go_wp2_with fail
        refine (lStarts_is s ⟨#[39]⟩ p hsz (by decide) (by omega) false HST.out _).mono ?_
        rintro e w' ⟨rfl, rfl⟩
        go_wp2_with (at_builtin; refine wpList_append_own _ rfl _ _ 38 rfl w.heap.size 5 i0 (.int .u8 0) 1 1 Tryd.underlying38 hi hz0 hz1 hz2 rfl (by decide) _ _ _ rfl (hown.alloc _) ⟨wr.heap.size, 0, none⟩ 1 1 [.int .u8 c] rfl rfl ?c1 ?c2 ?c3 ?c4 ?c5 ?_)
        case c1 => exact cell_one_new _ _ _
        case c2 => simp [Value.oneCell']
        case c3 => unfold maxLen; omega
        case c4 => omega
        case c5 => simp; omega
        intro v' w1 hown1 hgrow1 _
        go_wp2
        go_roundw
        case rel =>
          refine ⟨k + 1, hlt, ?_, ?_, ?_⟩
          · rw [HP'.out, HE.out]; go_num
          · rw [HSN.out, HC.out]; exact hown1
          · exact (hbw.alloc hws _).grown hgrow1 (by simp; omega) (fun j hj => (hown.lt j hj).1)
        case measure => simp [intOf]; omega
      · have HE := Lib.hid e2
        clear e2
        go_wp2_with fail
        refine (lStarts_is s ⟨#[39]⟩ p hsz (by decide) (by omega) false HST.out _).mono ?_
        rintro e w' ⟨rfl, rfl⟩
        go_wp2_with fail
        refine (HE.out _).mono ?_
        rintro e w' ⟨rfl, rfl⟩
        go_wp2_with (at_builtin; refine wpList_append_own _ rfl _ _ 38 rfl w.heap.size 5 i0 (.int .u8 0) 1 1 Tryd.underlying38 hi hz0 hz1 hz2 rfl (by decide) _ _ _ rfl (hown.alloc _) ⟨wr.heap.size, 0, none⟩ 1 1 [.int .u8 c] rfl rfl ?d1 ?d2 ?d3 ?d4 ?d5 ?_)
        case d1 => exact cell_one_new _ _ _
        case d2 => simp [Value.oneCell']
        case d3 => unfold maxLen; omega
        case d4 => omega
        case d5 => simp; omega
        intro v' w1 hown1 hgrow1 _
        go_wp2
        go_roundw
        case rel =>
          refine ⟨k + 1, hlt, ?_, ?_, ?_⟩
          · rw [HP'.out]
          · rw [HSN.out, HC.out]; exact hown1
          · exact (hbw.alloc hws _).grown hgrow1 (by simp; omega) (fun j hj => (hown.lt j hj).1)
        case measure => simp [intOf]; omega
    · obtain rfl : k = l.length := by omega
      obtain ⟨p, hp, hps, hst⟩ := end_facts 39 l s HS.out
      have HPS := Lib.hid hps
      have HST := Lib.hid hst
      have hlp : p < s.size := by omega
      rw [hp]
      rw [List.take_length] at hown
      have hcv := conv_own hown
      clear hp hps hst HS hlt hk hown
      go_wp2_with fail
      refine (lStarts_is s ⟨#[39]⟩ p hsz (by decide) (by omega) true HST.out _).mono ?_
      rintro e w' ⟨rfl, rfl⟩
      go_wp2
      go_ret3
      exact ⟨by rw [← HPS.out]; simp, hbw⟩

end Go.Proofs.YtmjlcgekkncaiaaDoor
