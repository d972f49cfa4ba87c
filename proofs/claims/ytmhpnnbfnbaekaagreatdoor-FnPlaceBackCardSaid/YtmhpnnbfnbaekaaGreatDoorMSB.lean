/- Part of the proof of FnPlaceBack: contracts of bytes.Buffer's growth, out of the kit's shelf. No condition. -/
import Derived.Shelf.LaysM
import Derived.Shelf.Bytes.TryGrowAt
import Derived.Shelf.Bytes.GrowRow0At
import Derived.Shelf.Bytes.GrowRowAt
import Derived.Shelf.Bytes.GrowNilAt
import Derived.Shelf.Bytes.GrowAt
import Derived.Test.YtmhpnnbfnbaekaaGreatDoorProg
/-
  DERIVED: THE SHELF's CONTRACTS AT THIS DUMP, IN PLAIN WORDS (tools/lay-plain.mjs out of 'TryzShB.lean', which tools/lay-shelf.mjs wrote): THE SAME DECLARATIONS UNDER THE SAME NAMES: 'import', 'namespace', 'open', 'def', 'theorem' AND NOTHING ELSE: no command of the shelf's: FOR A HAND-IN. Each laying: the table of numbers ('.._ren') and one theorem, a field a fact of the dump's own or the kernel's comparison; each contract: ONE APPLICATION.
-/
namespace Go.Proofs
open Go.Shelf
def Tryz.laysM251_ren : Go.Shelf.Ren := ⟨fun | 251 => 69 | n => n, fun | 130 => 120 | 3 => 3 | 4 => 4 | 0 => 0 | 93 => 65 | 37 => 44 | 91 => 63 | 5 => 5 | n => n, fun | n => n⟩
theorem Tryz.laysM251 : Go.Proofs.LaysM.n251 Tryz.prog Tryz.laysM251_ren := {
  mixed := by kernel_rfl
  f251 := Tryz.func69.trans (congrArg some (by kernel_rfl))
  t0 := Tryz.underlying0
  a0 := Tryz.isAgg0
  z0 := Tryz.sizeOf0
  v0 := Tryz.zeroValue0
  t3 := Tryz.underlying3
  a3 := Tryz.isAgg3
  z3 := Tryz.sizeOf3
  v3 := Tryz.zeroValue3
  t4 := Tryz.underlying4
  a4 := Tryz.isAgg4
  z4 := Tryz.sizeOf4
  v4 := Tryz.zeroValue4
  t37 := Tryz.underlying44
  a37 := Tryz.isAgg44
  z37 := Tryz.sizeOf44
  v37 := Tryz.zeroValue44
  t93 := Tryz.underlying65
  a93 := Tryz.isAgg65
  z93 := Tryz.sizeOf65
  v93 := Tryz.zeroValue65
  t130 := Tryz.underlying120
  a130 := Tryz.isAgg120
  z130 := Tryz.sizeOf120
  v130 := Tryz.zeroValue120
  t5 := Tryz.underlying5
  a5 := Tryz.isAgg5
  z5 := Tryz.sizeOf5
  v5 := Tryz.zeroValue5
  t91 := Tryz.underlying63
  a91 := Tryz.isAgg63
  z91 := Tryz.sizeOf63
  v91 := Tryz.zeroValue63
  i0 := by kernel_rfl
  i3 := by kernel_rfl
  i4 := by kernel_rfl
  i5 := by kernel_rfl
  i37 := by kernel_rfl
  i91 := by kernel_rfl
  i93 := by kernel_rfl
  i130 := by kernel_rfl }
def Tryz.laysM252_ren : Go.Shelf.Ren := ⟨fun | 252 => 70 | 181 => 50 | 184 => 41 | 251 => 69 | 290 => 94 | 324 => 131 | n => n, fun | 130 => 120 | 3 => 3 | 4 => 4 | 0 => 0 | 93 => 65 | 131 => 125 | 37 => 44 | 75 => 39 | 91 => 63 | 20 => 20 | 5 => 5 | 80 => 91 | 9 => 9 | n => n, fun | 14 => 8 | n => n⟩
theorem Tryz.laysM252 : Go.Proofs.LaysM.n252 Tryz.prog Tryz.laysM252_ren := {
  mixed := by kernel_rfl
  f181 := Tryz.func50.trans (congrArg some (by kernel_rfl))
  f184 := Tryz.func41.trans (congrArg some (by kernel_rfl))
  f251 := Tryz.func69.trans (congrArg some (by kernel_rfl))
  f252 := Tryz.func70.trans (congrArg some (by kernel_rfl))
  f290 := Tryz.func94.trans (congrArg some (by kernel_rfl))
  f324 := Tryz.func131.trans (congrArg some (by kernel_rfl))
  t0 := Tryz.underlying0
  a0 := Tryz.isAgg0
  z0 := Tryz.sizeOf0
  v0 := Tryz.zeroValue0
  t3 := Tryz.underlying3
  a3 := Tryz.isAgg3
  z3 := Tryz.sizeOf3
  v3 := Tryz.zeroValue3
  t4 := Tryz.underlying4
  a4 := Tryz.isAgg4
  z4 := Tryz.sizeOf4
  v4 := Tryz.zeroValue4
  t20 := Tryz.underlying20
  a20 := Tryz.isAgg20
  z20 := Tryz.sizeOf20
  v20 := Tryz.zeroValue20
  t37 := Tryz.underlying44
  a37 := Tryz.isAgg44
  z37 := Tryz.sizeOf44
  v37 := Tryz.zeroValue44
  t75 := Tryz.underlying39
  a75 := Tryz.isAgg39
  z75 := Tryz.sizeOf39
  v75 := Tryz.zeroValue39
  t91 := Tryz.underlying63
  a91 := Tryz.isAgg63
  z91 := Tryz.sizeOf63
  v91 := Tryz.zeroValue63
  t93 := Tryz.underlying65
  a93 := Tryz.isAgg65
  z93 := Tryz.sizeOf65
  v93 := Tryz.zeroValue65
  t130 := Tryz.underlying120
  a130 := Tryz.isAgg120
  z130 := Tryz.sizeOf120
  v130 := Tryz.zeroValue120
  t131 := Tryz.underlying125
  a131 := Tryz.isAgg125
  z131 := Tryz.sizeOf125
  v131 := Tryz.zeroValue125
  g14 := by kernel_rfl
  t5 := Tryz.underlying5
  a5 := Tryz.isAgg5
  z5 := Tryz.sizeOf5
  v5 := Tryz.zeroValue5
  t9 := Tryz.underlying9
  a9 := Tryz.isAgg9
  z9 := Tryz.sizeOf9
  v9 := Tryz.zeroValue9
  t80 := Tryz.underlying91
  a80 := Tryz.isAgg91
  z80 := Tryz.sizeOf91
  v80 := Tryz.zeroValue91
  i0 := by kernel_rfl
  i3 := by kernel_rfl
  i4 := by kernel_rfl
  i5 := by kernel_rfl
  i9 := by kernel_rfl
  i20 := by kernel_rfl
  i37 := by kernel_rfl
  i75 := by kernel_rfl
  i80 := by kernel_rfl
  i91 := by kernel_rfl
  i93 := by kernel_rfl
  i130 := by kernel_rfl
  i131 := by kernel_rfl
  m14 := by kernel_rfl }
open Go.RowKit in
/-- tryGrowByReslice: EITHER there is room: the place to write at is the old length, and the buffer holds the old bytes and n more of whatever lay there; OR there is none: nothing turns, and 'Lib.NoRoom' is what grow asks. (LAID: no walk: one application.) -/
theorem Tryz.Buffer_tryGrow_at (T : TypeId) (R : Nat → Option Value) (B b q n : Nat) (bs : List Value) (w : World) (h : LibA.IsBuffer T R 5 B b q bs w) :
    Calls Tryz.prog 69 #[.pointer (some ⟨b, q, none⟩), .int .i64 n] w fun e w' =>
      (e = .returned (.tuple #[.int .i64 bs.length, .bool true]) ∧ ∃ xs, xs.length = n ∧ LibA.IsBuffer T R 5 B b q (bs ++ xs) w' ∧ Below B w w' ∧ Lib.OthersKept 5 (some b) w w' ∧ w.grownBy w' (some b)) ∨
      (e = .returned (.tuple #[.int .i64 0, .bool false]) ∧ w' = w ∧ LibA.NoRoom b q n w) := Any.Buffer_tryGrow_at Tryz.laysM251 T R B b q n bs w h
open Go.RowKit in
/-- (*bytes.Buffer).grow: "grow grows the buffer to guarantee space for n more bytes. It returns the index where bytes should be written.": WHERE THERE IS NO ROOM; UNDER Go's OWN LIMIT (the new length takes at most 2^47 bytes): the old length; the buffer holds the old bytes and n more of whatever. (LAID: no walk: one application.) -/
theorem Tryz.Buffer_grow_at (T : TypeId) (R : Nat → Option Value) (B b q n : Nat) (bs : List Value) (w : World) (h : LibA.IsBuffer T R 5 B b q bs w) (hnr : LibA.NoRoom b q n w) (hBw : B ≤ w.heap.size) (h1 : ∀ v ∈ bs, v.oneCell' = true) (hlim : bs.length + n ≤ 140737488355328) :
    Calls Tryz.prog 70 #[.pointer (some ⟨b, q, none⟩), .int .i64 n] w fun e w' => e = .returned (.int .i64 bs.length) ∧ ∃ xs, xs.length = n ∧ LibA.IsBuffer T R 5 B b q (bs ++ xs) w' ∧ Below B w w' ∧ Lib.OthersKept 5 (some b) w w' ∧ w.grownBy w' (some b) := Any.Buffer_grow_at Tryz.laysM252 T R B b q n bs w h hnr hBw h1 hlim
end Go.Proofs
