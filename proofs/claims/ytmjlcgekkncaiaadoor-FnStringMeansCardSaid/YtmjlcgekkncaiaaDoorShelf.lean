/-
  DERIVED: THE SHELF's CONTRACTS AT THIS DUMP, IN PLAIN WORDS (tools/lay-plain.mjs out of 'TrydShelf.lean', which tools/lay-shelf.mjs wrote): THE SAME DECLARATIONS UNDER THE SAME NAMES: 'import', 'namespace', 'open', 'def', 'theorem' AND NOTHING ELSE: no command of the shelf's: FOR A HAND-IN. Each laying: the table of numbers ('.._ren') and one theorem, a field a fact of the dump's own or the kernel's comparison; each contract: ONE APPLICATION.
-/
import Derived.Shelf.LaysM
import Derived.Shelf.Bytes.String
import Derived.Shelf.Bytes.BufferK
import Derived.Ground.MzProg
import Derived.Shelf.Wr.WriteRune
import Derived.Test.YtmjlcgekkncaiaaDoorProg
namespace Go.Proofs
open Go.Shelf
def Tryd.laysM182_ren : Go.Shelf.Ren := ⟨fun | 182 => 16 | n => n, fun | 130 => 48 | 9 => 9 | 4 => 4 | 0 => 0 | 93 => 42 | 37 => 38 | 3 => 3 | 91 => 40 | 5 => 5 | n => n, fun | n => n⟩
theorem Tryd.laysM182 : Go.Proofs.LaysM.n182 Tryd.prog Tryd.laysM182_ren := {
  mixed := by kernel_rfl
  f182 := Tryd.func16.trans (congrArg some (by kernel_rfl))
  t0 := Tryd.underlying0
  a0 := Tryd.isAgg0
  z0 := Tryd.sizeOf0
  v0 := Tryd.zeroValue0
  t3 := Tryd.underlying3
  a3 := Tryd.isAgg3
  z3 := Tryd.sizeOf3
  v3 := Tryd.zeroValue3
  t4 := Tryd.underlying4
  a4 := Tryd.isAgg4
  z4 := Tryd.sizeOf4
  v4 := Tryd.zeroValue4
  t9 := Tryd.underlying9
  a9 := Tryd.isAgg9
  z9 := Tryd.sizeOf9
  v9 := Tryd.zeroValue9
  t37 := Tryd.underlying38
  a37 := Tryd.isAgg38
  z37 := Tryd.sizeOf38
  v37 := Tryd.zeroValue38
  t93 := Tryd.underlying42
  a93 := Tryd.isAgg42
  z93 := Tryd.sizeOf42
  v93 := Tryd.zeroValue42
  t130 := Tryd.underlying48
  a130 := Tryd.isAgg48
  z130 := Tryd.sizeOf48
  v130 := Tryd.zeroValue48
  t5 := Tryd.underlying5
  a5 := Tryd.isAgg5
  z5 := Tryd.sizeOf5
  v5 := Tryd.zeroValue5
  t91 := Tryd.underlying40
  a91 := Tryd.isAgg40
  z91 := Tryd.sizeOf40
  v91 := Tryd.zeroValue40
  i0 := by kernel_rfl
  i3 := by kernel_rfl
  i4 := by kernel_rfl
  i5 := by kernel_rfl
  i9 := by kernel_rfl
  i37 := by kernel_rfl
  i91 := by kernel_rfl
  i93 := by kernel_rfl
  i130 := by kernel_rfl }
open Go.RowKit in
/-- (*bytes.Buffer).String: "String returns the contents of the unread portion of the buffer as a string.": THE BYTES THAT WERE WRITTEN. The world is as it was but for the count of draws (the statement has two reads: its order is drawn). (LAID: no walk: one application.) -/
theorem Tryd.Buffer_String (B b : Nat) (l : List UInt8) (w : World) (h : Lib.IsBuffer 42 5 B b (Lib.byteCells l) w) :
    Calls Tryd.prog 16 #[.pointer (some ⟨b, 0, none⟩)] w fun e w' => e = .returned (.string ⟨l.toArray⟩) ∧ ∃ n, w' = w.drewN n := Any.Buffer_String Tryd.laysM182 B b l w h
def Tryd.laysM178_ren : Go.Shelf.Ren := ⟨fun | 178 => 34 | 251 => 30 | 252 => 31 | 181 => 40 | 184 => 41 | 290 => 42 | 324 => 46 | n => n, fun | 130 => 48 | 9 => 9 | 3 => 3 | 75 => 44 | 0 => 0 | 93 => 42 | 91 => 40 | 131 => 34 | 4 => 4 | 37 => 38 | 20 => 20 | 80 => 49 | 5 => 5 | n => n, fun | 14 => 0 | n => n⟩
theorem Tryd.laysM178 : Go.Proofs.LaysM.n178 Tryd.prog Tryd.laysM178_ren := {
  mixed := by kernel_rfl
  f178 := Tryd.func34.trans (congrArg some (by kernel_rfl))
  f181 := Tryd.func40.trans (congrArg some (by kernel_rfl))
  f184 := Tryd.func41.trans (congrArg some (by kernel_rfl))
  f251 := Tryd.func30.trans (congrArg some (by kernel_rfl))
  f252 := Tryd.func31.trans (congrArg some (by kernel_rfl))
  f290 := Tryd.func42.trans (congrArg some (by kernel_rfl))
  f324 := Tryd.func46.trans (congrArg some (by kernel_rfl))
  t0 := Tryd.underlying0
  a0 := Tryd.isAgg0
  z0 := Tryd.sizeOf0
  v0 := Tryd.zeroValue0
  t3 := Tryd.underlying3
  a3 := Tryd.isAgg3
  z3 := Tryd.sizeOf3
  v3 := Tryd.zeroValue3
  t4 := Tryd.underlying4
  a4 := Tryd.isAgg4
  z4 := Tryd.sizeOf4
  v4 := Tryd.zeroValue4
  t9 := Tryd.underlying9
  a9 := Tryd.isAgg9
  z9 := Tryd.sizeOf9
  v9 := Tryd.zeroValue9
  t20 := Tryd.underlying20
  a20 := Tryd.isAgg20
  z20 := Tryd.sizeOf20
  v20 := Tryd.zeroValue20
  t37 := Tryd.underlying38
  a37 := Tryd.isAgg38
  z37 := Tryd.sizeOf38
  v37 := Tryd.zeroValue38
  t75 := Tryd.underlying44
  a75 := Tryd.isAgg44
  z75 := Tryd.sizeOf44
  v75 := Tryd.zeroValue44
  t91 := Tryd.underlying40
  a91 := Tryd.isAgg40
  z91 := Tryd.sizeOf40
  v91 := Tryd.zeroValue40
  t93 := Tryd.underlying42
  a93 := Tryd.isAgg42
  z93 := Tryd.sizeOf42
  v93 := Tryd.zeroValue42
  t130 := Tryd.underlying48
  a130 := Tryd.isAgg48
  z130 := Tryd.sizeOf48
  v130 := Tryd.zeroValue48
  t131 := Tryd.underlying34
  a131 := Tryd.isAgg34
  z131 := Tryd.sizeOf34
  v131 := Tryd.zeroValue34
  g14 := by kernel_rfl
  t5 := Tryd.underlying5
  a5 := Tryd.isAgg5
  z5 := Tryd.sizeOf5
  v5 := Tryd.zeroValue5
  t80 := Tryd.underlying49
  a80 := Tryd.isAgg49
  z80 := Tryd.sizeOf49
  v80 := Tryd.zeroValue49
  i0 := by kernel_rfl
  i3 := by kernel_rfl
  i4 := by kernel_rfl
  i5 := by kernel_rfl
  i9 := by kernel_rfl
  i20 := by kernel_rfl
  i37 := by kernel_rfl
  i75 := by kernel_rfl
  i80 := by kernel_rfl
  i91 := by kernel_rfl
  i93 := by kernel_rfl
  i130 := by kernel_rfl
  i131 := by kernel_rfl
  m14 := by kernel_rfl }
open Go.RowKit in
theorem Tryd.Buffer_WriteString_k (B b : Nat) (bs : List Value) (s : ByteArray) (w : World) (h : Lib.IsBuffer 42 5 B b bs w) (hBw : B ≤ w.heap.size) (h1 : ∀ v ∈ bs, v.oneCell' = true) (hlim : bs.length + s.size ≤ 140737488355328) :
    Calls Tryd.prog 34 #[.pointer (some ⟨b, 0, none⟩), .string s] w fun e w' => e = .returned (.tuple #[.int .i64 s.size, .nilIface]) ∧ Lib.IsBuffer 42 5 B b (bs ++ Lib.byteCells s.data.toList) w' ∧ Below B w w' ∧ Lib.OthersKept 5 (some b) w w' := Any.Buffer_WriteString_k Tryd.laysM178 B b bs s w h hBw h1 hlim
def Tryd.laysWr5_ren : Go.Shelf.Ren := ⟨fun | 5 => 14 | 7 => 29 | 8 => 30 | 9 => 31 | 10 => 32 | 11 => 40 | 12 => 41 | 13 => 42 | 14 => 43 | 15 => 46 | n => n, fun | 34 => 48 | 21 => 21 | 3 => 3 | 28 => 44 | 35 => 57 | 4 => 4 | 5 => 5 | 0 => 0 | 26 => 42 | 24 => 40 | 37 => 34 | 22 => 38 | 43 => 75 | 20 => 20 | 31 => 49 | 9 => 9 | n => n, fun | 0 => 0 | n => n⟩
theorem Tryd.laysWr5 : Go.Proofs.LaysWr.n5 Tryd.prog Tryd.laysWr5_ren := {
  mixed := by kernel_rfl
  f5 := Tryd.func14.trans (congrArg some (by kernel_rfl))
  f7 := Tryd.func29.trans (congrArg some (by kernel_rfl))
  f8 := Tryd.func30.trans (congrArg some (by kernel_rfl))
  f9 := Tryd.func31.trans (congrArg some (by kernel_rfl))
  f10 := Tryd.func32.trans (congrArg some (by kernel_rfl))
  f11 := Tryd.func40.trans (congrArg some (by kernel_rfl))
  f12 := Tryd.func41.trans (congrArg some (by kernel_rfl))
  f13 := Tryd.func42.trans (congrArg some (by kernel_rfl))
  f14 := Tryd.func43.trans (congrArg some (by kernel_rfl))
  f15 := Tryd.func46.trans (congrArg some (by kernel_rfl))
  t0 := Tryd.underlying0
  a0 := Tryd.isAgg0
  z0 := Tryd.sizeOf0
  v0 := Tryd.zeroValue0
  i0 := by kernel_rfl
  t3 := Tryd.underlying3
  a3 := Tryd.isAgg3
  z3 := Tryd.sizeOf3
  v3 := Tryd.zeroValue3
  i3 := by kernel_rfl
  t4 := Tryd.underlying4
  a4 := Tryd.isAgg4
  z4 := Tryd.sizeOf4
  v4 := Tryd.zeroValue4
  i4 := by kernel_rfl
  t5 := Tryd.underlying5
  a5 := Tryd.isAgg5
  z5 := Tryd.sizeOf5
  v5 := Tryd.zeroValue5
  i5 := by kernel_rfl
  t9 := Tryd.underlying9
  a9 := Tryd.isAgg9
  z9 := Tryd.sizeOf9
  v9 := Tryd.zeroValue9
  i9 := by kernel_rfl
  t20 := Tryd.underlying20
  a20 := Tryd.isAgg20
  z20 := Tryd.sizeOf20
  v20 := Tryd.zeroValue20
  i20 := by kernel_rfl
  t21 := Tryd.underlying21
  a21 := Tryd.isAgg21
  z21 := Tryd.sizeOf21
  v21 := Tryd.zeroValue21
  i21 := by kernel_rfl
  t22 := Tryd.underlying38
  a22 := Tryd.isAgg38
  z22 := Tryd.sizeOf38
  v22 := Tryd.zeroValue38
  i22 := by kernel_rfl
  t24 := Tryd.underlying40
  a24 := Tryd.isAgg40
  z24 := Tryd.sizeOf40
  v24 := Tryd.zeroValue40
  i24 := by kernel_rfl
  t26 := Tryd.underlying42
  a26 := Tryd.isAgg42
  z26 := Tryd.sizeOf42
  v26 := Tryd.zeroValue42
  i26 := by kernel_rfl
  t28 := Tryd.underlying44
  a28 := Tryd.isAgg44
  z28 := Tryd.sizeOf44
  v28 := Tryd.zeroValue44
  i28 := by kernel_rfl
  t31 := Tryd.underlying49
  a31 := Tryd.isAgg49
  z31 := Tryd.sizeOf49
  v31 := Tryd.zeroValue49
  i31 := by kernel_rfl
  t34 := Tryd.underlying48
  a34 := Tryd.isAgg48
  z34 := Tryd.sizeOf48
  v34 := Tryd.zeroValue48
  i34 := by kernel_rfl
  t35 := Tryd.underlying57
  a35 := Tryd.isAgg57
  z35 := Tryd.sizeOf57
  v35 := Tryd.zeroValue57
  i35 := by kernel_rfl
  t37 := Tryd.underlying34
  a37 := Tryd.isAgg34
  z37 := Tryd.sizeOf34
  v37 := Tryd.zeroValue34
  i37 := by kernel_rfl
  t43 := Tryd.underlying75
  a43 := Tryd.isAgg75
  z43 := Tryd.sizeOf75
  v43 := Tryd.zeroValue75
  i43 := by kernel_rfl
  g0 := by kernel_rfl
  m0 := by kernel_rfl }
open Go.RowKit in
/-- (*bytes.Buffer).WriteRune, AT EVERY RUNE: (the number of its bytes, nil); THE BUFFER HOLDS THEM BEHIND WHAT IT HELD. The frames: as '_k'. NO WALK: the two roads as one. (LAID: no walk: one application.) -/
theorem Tryd.Buffer_WriteRune_k (B b : Nat) (bs : List Value) (r : Int) (hr0 : -2147483648 ≤ r) (hr1 : r ≤ 2147483647) (w : World) (h : Lib.IsBuffer 42 5 B b bs w) (hBw : B ≤ w.heap.size) (h1 : ∀ v ∈ bs, v.oneCell' = true) (hlim : bs.length + 4 ≤ 140737488355328) :
    Calls Tryd.prog 14 #[.pointer (some ⟨b, 0, none⟩), .int .i32 r] w fun e w' => e = .returned (.tuple #[.int .i64 (Lib.runeCells r).length, .nilIface]) ∧ Lib.IsBuffer 42 5 B b (bs ++ Lib.runeCells r) w' ∧ Below B w w' ∧ Lib.OthersKept 5 (some b) w w' := Any.Buffer_WriteRune_k Tryd.laysWr5 B b bs r hr0 hr1 w h hBw h1 hlim
end Go.Proofs
