/- Lex: the tokens of a literal: itself, and the end. -/
import Derived.Test.YtmjlcgekkncaiaaDoorF
namespace Go.Proofs.YtmjlcgekkncaiaaDoor
open Go.RowKit

theorem info30 : (Tryd.prog.info? 30).map (fun i => (i.zero, i.size, i.bytes)) = some (some (.agg #[.string ⟨#[]⟩, .string ⟨#[]⟩, .string ⟨#[]⟩, .string ⟨#[]⟩, .int .i64 0, .int .i64 0, .int .i64 0, .slice none 0 0]), 8, 112) := by kernel_rfl

theorem grown_setCell {w w' : World} {b : Nat} (h : w.grownBy w' (some b)) (j : Nat) (v : Value) : w.grownBy (w'.setCell ⟨b, j, none⟩ v) (some b) :=
  ⟨h.os, h.tape, h.output, by have := h.size; simpa [World.setCell] using this, fun k hk hne => by
    rw [Below.heap_setCell _ _ _ _ (fun e => hne (by rw [e]))]
    exact h.block k hk hne⟩

/-- lToken at a literal, in the words of blocks. -/
theorem lToken_lit' (q : UInt8) (hq : q = 34 ∨ q = 39) (l : List UInt8) (s : ByteArray) (hs : s.data.toList = lit q l) (hsz : s.size ≤ 1000000)
    (tb : Nat) (k sp ra tx ba po en co : Value) (w : World) (ht : w.heap[tb]? = some (.cells #[k, sp, ra, tx, ba, po, en, co] 30 (0, 0))) :
    Calls Tryd.prog 12 #[.string s, .int .i64 0, .bool false, .bool false, .pointer (some ⟨tb, 0, none⟩)] w fun e w' => e = .returned (.tuple #[.int .i64 s.size, .bool true]) ∧
      w'.heap[tb]? = some (.cells #[.string ⟨#[60, 115, 116, 114, 105, 110, 103, 62]⟩, sp, ra, .string ⟨l.toArray⟩, ba, po, en, co] 30 (0, 0)) ∧ w.grownBy w' (some tb) := by
  refine (lToken_lit q hq l s hs hsz tb k sp ra tx ba po en co w ht).mono ?_
  rintro e w' ⟨he, W1, hb, rfl⟩
  have hlt : tb < w.heap.size := (Array.getElem?_eq_some_iff.1 ht).1
  have ht1 := (hb.block tb hlt).trans ht
  refine ⟨he, ?_, grown_setCell (grown_setCell ⟨hb.os, hb.tape, hb.output, hb.size, fun k hk _ => hb.block k hk⟩ _ _) _ _⟩
  exact Lib.heap_setCell_same (i := 3) (Lib.heap_setCell_same (i := 0) ht1 _) _

/-- lToken at the end, in the words of blocks. -/
theorem lToken_end' (s : ByteArray) (hsz : s.size ≤ 1000000) (tb : Nat) (k sp ra tx ba po en co : Value) (w : World) (ht : w.heap[tb]? = some (.cells #[k, sp, ra, tx, ba, po, en, co] 30 (0, 0))) :
    Calls Tryd.prog 12 #[.string s, .int .i64 s.size, .bool false, .bool false, .pointer (some ⟨tb, 0, none⟩)] w fun e w' => e = .returned (.tuple #[.int .i64 s.size, .bool true]) ∧
      w'.heap[tb]? = some (.cells #[.string ⟨#[60, 101, 111, 102, 62]⟩, sp, ra, tx, ba, po, en, co] 30 (0, 0)) ∧ w.grownBy w' (some tb) := by
  refine (lToken_end s hsz tb k sp ra tx ba po en co w ht).mono ?_
  rintro e w' ⟨he, rfl⟩
  exact ⟨he, Lib.heap_setCell_same (i := 0) ht _, grown_setCell (World.grownBy.refl _ _) _ _⟩

theorem cells8 {w : World} {b : Nat} {k sp ra tx ba po en co : Value} (h : w.heap[b]? = some (.cells #[k, sp, ra, tx, ba, po, en, co] 30 (0, 0))) :
    w.cell? ⟨b, 0, none⟩ = some k ∧ w.cell? ⟨b, 1, none⟩ = some sp ∧ w.cell? ⟨b, 2, none⟩ = some ra ∧ w.cell? ⟨b, 3, none⟩ = some tx ∧
    w.cell? ⟨b, 4, none⟩ = some ba ∧ w.cell? ⟨b, 5, none⟩ = some po ∧ w.cell? ⟨b, 6, none⟩ = some en ∧ w.cell? ⟨b, 7, none⟩ = some co := by
  refine ⟨?_, ?_, ?_, ?_, ?_, ?_, ?_, ?_⟩ <;> (rw [Lib.cell_of_heap h]; rfl)

/-- What is owned and not empty has a block. -/
theorem own_some {w : World} {B : Nat} {E : TypeId} {size n : Nat} {v : Value} {xs : List Value} (h : w.ownsRow B E size v n xs) (hn : 0 < n) :
    ∃ g cap, v = .slice (some ⟨g, 0, none⟩) n cap ∧ B ≤ g ∧ g < w.heap.size ∧ n ≤ cap ∧ cap ≤ maxLen := by
  rcases h.2 with ⟨_, h0⟩ | ⟨g, cap, cur, rfl, hB, hg, hc, hm, _⟩
  · omega
  · exact ⟨g, cap, rfl, hB, (Array.getElem?_eq_some_iff.1 hg).1, hc, hm⟩

theorem own_cell {w : World} {B : Nat} {E : TypeId} {size n g cap : Nat} {xs : List Value} (h : w.ownsRow B E size (.slice (some ⟨g, 0, none⟩) n cap) n xs) (j : Nat) (u : Value) (hj : xs[j]? = some u) : w.cell? ⟨g, j, none⟩ = some u := by
  have := h.cells rfl j u hj
  rwa [Addr.add_lit, Nat.zero_add] at this

/-- The cells of a new block. -/
theorem cells_new (w : World) (n : Nat) (hn : n = w.heap.size) (cs : List Value) (t : TypeId) : ∀ j u, cs[j]? = some u → (w.alloc (.cells cs.toArray t)).cell? ((⟨n, 0, none⟩ : Addr).add j) = some u := by
  intro j u hj
  subst hn
  rw [Addr.add_lit, Nat.zero_add, Lib.cell_of_heap (heap_alloc_new w _)]
  simpa using hj

set_option maxHeartbeats 1600000 in
set_option maxRecDepth 100000 in
theorem lex_lit (q : UInt8) (hq : q = 34 ∨ q = 39) (l : List UInt8) (s : ByteArray) (hs : s.data.toList = lit q l) (hsz : s.size ≤ 1000000) (w : World) :
    Calls Tryd.prog 7 #[.string s] w fun e w' => ∃ g cap, e = .returned (.tuple #[.slice (some ⟨g, 0, none⟩) 2 cap, .int .i64 0, .bool true]) ∧ Below w.heap.size w w' ∧ w.heap.size ≤ g ∧
      w'.cell? ⟨g, 0, none⟩ = some (.string ⟨#[60, 115, 116, 114, 105, 110, 103, 62]⟩) ∧ w'.cell? ⟨g, 2, none⟩ = some (.string s) ∧ w'.cell? ⟨g, 3, none⟩ = some (.string ⟨l.toArray⟩) := by
  have h2 : 2 ≤ s.size := by rw [Lib.size_eq, hs, lit_len]; omega
  have hne : ∀ x : UInt8, x ≠ 34 → x ≠ 39 → ∀ p, startsB s.data.toList (x :: p) 0 = false := fun x hx hy p => by
    rw [hs]
    exact startsB_ne q _ x p (by rcases hq with rfl | rfl; exact fun e => hx e.symm; exact fun e => hy e.symm)
  have hend : ∀ x p, startsB s.data.toList (x :: p) s.size = false := fun x p => by rw [Lib.size_eq]; exact startsB_end _ x p
  have hT := lToken_lit' q hq l s hs hsz
  obtain ⟨hh, hx0⟩ := at_drop_int s 0 0 q (by rw [hs]; rfl)
  have hqq : isQ ((s[0]'(by omega)).toNat : Int) := by
    have hx1 : ((s[0]'(by omega)).toNat : Int) = (q.toNat : Int) := hx0
    rw [hx1]; rcases hq with rfl | rfl; exact .inl rfl; exact .inr rfl
  have hB := lBlanks_q s hsz (by omega) hqq
  have hC0 := fun w => lComment_no s 0 hsz (Nat.zero_le _) (hne 35 (by decide) (by decide) _) (hne 45 (by decide) (by decide) _) (hne 47 (by decide) (by decide) _) w
  have hC1 := lComment_no s s.size hsz (Nat.le_refl _) (hend _ _) (hend _ _) (hend _ _)
  have hB1 := lBlanks_end s hsz
  have hT1 := lToken_end' s hsz
  clear hx0 hs hqq hne hend
  obtain ⟨i0, hi, hz0, hz1, hz2⟩ := info_parts info30
  go_enter Tryd.func7, Tryd.ntmps7
  go_wp2_with fail
  refine wp_loop_rounds 2 ?_
  rw [rounds_succ]
  go_wp2_with fail
  refine wp_loop_rounds 1 ?_
  rw [rounds_succ]
  go_wp2_with fail
  refine (hB _).mono ?_
  rintro e w' ⟨rfl, rfl⟩
  go_wp2_with fail
  refine (hC0 _).mono ?_
  rintro e w' ⟨rfl, rfl⟩
  go_wp2_with fail
  refine (lDotted_empty _).mono ?_
  rintro e w' ⟨rfl, rfl⟩
  go_wp2_with fail
  refine (hT w.heap.size _ _ _ _ _ _ _ _ _ (heap_alloc_new w _)).mono ?_
  rintro e W1 ⟨rfl, ht1, hg1⟩
  have hb1 : Below w.heap.size w W1 := ((Below.refl _ w).alloc (Nat.le_refl _) _).grown hg1 (by simp) (fun k hk => by cases hk; exact Nat.le_refl _)
  have hw1 : w.heap.size < W1.heap.size := by have := hg1.size; simp at this; omega
  clear hT hg1
  obtain ⟨c0, c1, c2, c3, c4, c5, c6, c7⟩ := cells8 ht1
  have f2 : W1.frozen? ⟨w.heap.size, 2, none⟩ = false := Lib.frozen_of_heap ht1 2
  have f6 : W1.frozen? ⟨w.heap.size, 6, none⟩ = false := Lib.frozen_of_heap ht1 6
  go_wp2_with (at_builtin; refine wpList_append_own _ rfl _ _ 25 rfl w.heap.size 30 i0 _ 8 112 Tryd.underlying25 hi hz0 hz1 hz2 rfl (by decide) _ 0 [] rfl (World.ownsRow_nil _ _ _ _) ⟨W1.heap.size, 0, none⟩ 1 1 [.string ⟨#[60, 115, 116, 114, 105, 110, 103, 62]⟩, .string ByteArray.empty, .string s, .string ⟨l.toArray⟩, .int .i64 0, .int .i64 0, .int .i64 s.size, .slice none 0 0] rfl rfl ?c1 ?c2 ?c3 ?c4 ?c5 ?_)
  case c1 => exact cells_new _ _ (by simp [World.setCell]) [_, _, _, _, _, _, _, _] _
  case c2 => simp [Value.oneCell']
  case c3 => unfold maxLen; omega
  case c4 => omega
  case c5 => simp [World.setCell]; omega
  intro v' W2 hown hg2 _
  have ht2 := (hg2.block w.heap.size (by simp [World.setCell]; omega) (by simp [Value.ownBlock])).trans ((Below.heap_alloc _ _ _ (by simp [World.setCell]; omega)).trans (Lib.heap_setCell_same (i := 6) (Lib.heap_setCell_same (i := 2) ht1 _) _))
  have hb2 : Below w.heap.size w W2 := (((hb1.setCell (p := ⟨w.heap.size, 2, none⟩) (Nat.le_refl _) _).setCell (p := ⟨w.heap.size, 6, none⟩) (Nat.le_refl _) _).alloc (by simp [World.setCell]; omega) _).grown hg2 (by simp [World.setCell]; omega) (fun k hk => by cases hk)
  have hw2 : w.heap.size < W2.heap.size := (Array.getElem?_eq_some_iff.1 ht2).1
  obtain ⟨g, cap, hv, hbg, hgl, _, hcm⟩ := own_some hown (by decide)
  subst hv
  have hk0 := own_cell hown 0 _ rfl
  have d0 : W2.cell? ⟨w.heap.size, 0, none⟩ = some (.string ⟨#[60, 115, 116, 114, 105, 110, 103, 62]⟩) := by rw [Lib.cell_of_heap ht2]; rfl
  clear ht2 hg2 hb1 hw1 ht1 c0 c1 c2 c3 c4 c5 c6 c7 f2 f6
  unfold maxLen at hcm
  go_wp2_with fail
  rw [rounds_succ]
  go_wp2_with fail
  refine wp_loop_rounds 1 ?_
  rw [rounds_succ]
  go_wp2_with fail
  refine (hB1 _).mono ?_
  rintro e w' ⟨rfl, rfl⟩
  go_wp2_with fail
  refine (hC1 _).mono ?_
  rintro e w' ⟨rfl, rfl⟩
  go_wp2_with fail
  refine (lDotted_string _).mono ?_
  rintro e w' ⟨rfl, rfl⟩
  go_wp2_with fail
  refine (hT1 W2.heap.size _ _ _ _ _ _ _ _ _ (heap_alloc_new W2 _)).mono ?_
  rintro e W3 ⟨rfl, ht3, hg3⟩
  have hb3 : Below w.heap.size w W3 := (hb2.alloc (by omega) _).grown hg3 (by simp; omega) (fun k hk => by cases hk; omega)
  have hw3 : W2.heap.size < W3.heap.size := (Array.getElem?_eq_some_iff.1 ht3).1
  have hown3 := (hown.alloc (.cells #[.string ⟨#[]⟩, .string ByteArray.empty, .string ⟨#[]⟩, .string ⟨#[]⟩, .int .i64 0, .int .i64 s.size, .int .i64 0, .slice none 0 0] 30)).kept hg3 (.inr (by simp [Value.ownBlock]; omega))
  clear hT1 hown hk0 d0
  obtain ⟨c0, c1, c2, c3, c4, c5, c6, c7⟩ := cells8 ht3
  have f2 : W3.frozen? ⟨W2.heap.size, 2, none⟩ = false := Lib.frozen_of_heap ht3 2
  have f6 : W3.frozen? ⟨W2.heap.size, 6, none⟩ = false := Lib.frozen_of_heap ht3 6
  have hne : (Value.slice (some ⟨g, 0, none⟩) 1 cap).ownBlock ≠ some W2.heap.size := by simp [Value.ownBlock]; omega
  have hown4 := hown3.kept (grown_setCell (grown_setCell (World.grownBy.refl W3 (some W2.heap.size)) 2 (.string ByteArray.empty)) 6 (.int .i64 s.size)) (.inr hne)
  clear hown3
  go_wp2_with (at_builtin; refine wpList_append_own _ rfl _ _ 25 rfl w.heap.size 30 i0 _ 8 112 Tryd.underlying25 hi hz0 hz1 hz2 rfl (by decide) _ 1 _ rfl (hown4.alloc _) ⟨W3.heap.size, 0, none⟩ 1 1 [.string ⟨#[60, 101, 111, 102, 62]⟩, .string ByteArray.empty, .string ByteArray.empty, .string ⟨#[]⟩, .int .i64 0, .int .i64 s.size, .int .i64 s.size, .slice none 0 0] rfl rfl ?e1 ?e2 ?e3 ?e4 ?e5 ?_)
  case e1 => exact cells_new _ _ (by simp [World.setCell]) [_, _, _, _, _, _, _, _] _
  case e2 => simp [Value.oneCell']
  case e3 => unfold maxLen; omega
  case e4 => omega
  case e5 => simp [World.setCell]; omega
  intro v' W4 hown5 hg4 _
  have ht4 := (hg4.block W2.heap.size (by simp [World.setCell]; omega) (fun e => hne e.symm)).trans ((Below.heap_alloc _ _ _ (by simp [World.setCell]; omega)).trans (Lib.heap_setCell_same (i := 6) (Lib.heap_setCell_same (i := 2) ht3 _) _))
  have hb4 : Below w.heap.size w W4 := (((hb3.setCell (p := ⟨W2.heap.size, 2, none⟩) (by simp; omega) _).setCell (p := ⟨W2.heap.size, 6, none⟩) (by simp; omega) _).alloc (by simp [World.setCell]; omega) _).grown hg4 (by simp [World.setCell]; omega) (fun k hk => by cases hk; omega)
  obtain ⟨g', cap', hv, hbg', hgl', _, hcm'⟩ := own_some hown5 (by decide)
  subst hv
  have k0 := own_cell hown5 0 _ rfl
  have k2 := own_cell hown5 2 _ rfl
  have k3 := own_cell hown5 3 _ rfl
  have d0 : W4.cell? ⟨W2.heap.size, 0, none⟩ = some (.string ⟨#[60, 101, 111, 102, 62]⟩) := by rw [Lib.cell_of_heap ht4]; rfl
  clear ht4 hg4 hb3 hw3 ht3 hown4 hown5 c0 c1 c2 c3 c4 c5 c6 c7 f2 f6
  go_wp2
  go_ret3
  exact ⟨g', cap', rfl, hb4, hbg', k0, k2, k3⟩

end Go.Proofs.YtmjlcgekkncaiaaDoor
