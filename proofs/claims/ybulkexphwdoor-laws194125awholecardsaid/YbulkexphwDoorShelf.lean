/-
  DERIVED: THE SHELF's CONTRACTS AT THIS DUMP, IN PLAIN WORDS (tools/lay-plain.mjs out of 'YbulkexphwDoorShelf.lean', which tools/lay-shelf.mjs wrote): THE SAME DECLARATIONS UNDER THE SAME NAMES: 'import', 'namespace', 'open', 'def', 'theorem' AND NOTHING ELSE: no command of the shelf's: FOR A HAND-IN. Each laying: the table of numbers ('.._ren') and one theorem, a field a fact of the dump's own or the kernel's comparison; each contract: ONE APPLICATION.
-/
import Derived.Shelf.LaysM
import Derived.Shelf.Bytes.WriteAt
import Derived.Test.YbulkexphwDoorProg
namespace Go.Proofs
open Go.Shelf
def Ybad.laysM180_ren : Go.Shelf.Ren := ⟨fun | 180 => 6 | 251 => 10 | 252 => 11 | 181 => 13 | 184 => 14 | 290 => 15 | 324 => 16 | n => n, fun | 130 => 25 | 37 => 22 | 3 => 3 | 75 => 31 | 0 => 0 | 93 => 29 | 91 => 27 | 131 => 46 | 4 => 4 | 20 => 20 | 5 => 5 | 80 => 55 | 9 => 9 | n => n, fun | 14 => 0 | n => n⟩
theorem Ybad.laysM180 : Go.Proofs.LaysM.n180 Ybad.prog Ybad.laysM180_ren := {
  mixed := by kernel_rfl
  f180 := Ybad.func6.trans (congrArg some (by kernel_rfl))
  f181 := Ybad.func13.trans (congrArg some (by kernel_rfl))
  f184 := Ybad.func14.trans (congrArg some (by kernel_rfl))
  f251 := Ybad.func10.trans (congrArg some (by kernel_rfl))
  f252 := Ybad.func11.trans (congrArg some (by kernel_rfl))
  f290 := Ybad.func15.trans (congrArg some (by kernel_rfl))
  f324 := Ybad.func16.trans (congrArg some (by kernel_rfl))
  t0 := Ybad.underlying0
  a0 := Ybad.isAgg0
  z0 := Ybad.sizeOf0
  v0 := Ybad.zeroValue0
  t3 := Ybad.underlying3
  a3 := Ybad.isAgg3
  z3 := Ybad.sizeOf3
  v3 := Ybad.zeroValue3
  t4 := Ybad.underlying4
  a4 := Ybad.isAgg4
  z4 := Ybad.sizeOf4
  v4 := Ybad.zeroValue4
  t20 := Ybad.underlying20
  a20 := Ybad.isAgg20
  z20 := Ybad.sizeOf20
  v20 := Ybad.zeroValue20
  t37 := Ybad.underlying22
  a37 := Ybad.isAgg22
  z37 := Ybad.sizeOf22
  v37 := Ybad.zeroValue22
  t75 := Ybad.underlying31
  a75 := Ybad.isAgg31
  z75 := Ybad.sizeOf31
  v75 := Ybad.zeroValue31
  t91 := Ybad.underlying27
  a91 := Ybad.isAgg27
  z91 := Ybad.sizeOf27
  v91 := Ybad.zeroValue27
  t93 := Ybad.underlying29
  a93 := Ybad.isAgg29
  z93 := Ybad.sizeOf29
  v93 := Ybad.zeroValue29
  t130 := Ybad.underlying25
  a130 := Ybad.isAgg25
  z130 := Ybad.sizeOf25
  v130 := Ybad.zeroValue25
  t131 := Ybad.underlying46
  a131 := Ybad.isAgg46
  z131 := Ybad.sizeOf46
  v131 := Ybad.zeroValue46
  g14 := by kernel_rfl
  t5 := Ybad.underlying5
  a5 := Ybad.isAgg5
  z5 := Ybad.sizeOf5
  v5 := Ybad.zeroValue5
  t9 := Ybad.underlying9
  a9 := Ybad.isAgg9
  z9 := Ybad.sizeOf9
  v9 := Ybad.zeroValue9
  t80 := Ybad.underlying55
  a80 := Ybad.isAgg55
  z80 := Ybad.sizeOf55
  v80 := Ybad.zeroValue55
  i0 := by kernel_rfl
  i3 := by kernel_rfl
  i4 := by kernel_rfl
  i5 := by kernel_rfl
  i9 := by kernel_rfl
  i20 := by kernel_rfl
  i37 := by kernel_rfl
  i75 := by kernel_rfl
  i80 := by kernel_rfl
  i91 := by kernel_rfl
  i93 := by kernel_rfl
  i130 := by kernel_rfl
  i131 := by kernel_rfl
  m14 := by kernel_rfl }
open Go.RowKit in
/-- (*bytes.Buffer).Write: "Write appends the contents of p to the buffer, growing the buffer as needed. The return value n is the length of p; err is always nil." (LAID: no walk: one application.) -/
theorem Ybad.Buffer_Write_at (T : TypeId) (R : Nat → Option Value) (B b q : Nat) (bs cs : List Value) (a : Addr) (n c : Nat) (w : World) (h : LibA.IsBuffer T R 5 B b q bs w) (hBw : B ≤ w.heap.size) (h1 : ∀ v ∈ bs, v.oneCell' = true) (hn : cs.length = n) (hab : a.block ≠ b) (hsrc : ∀ j v, cs[j]? = some v → w.cell? (a.add j) = some v) (h1c : ∀ v ∈ cs, v.oneCell' = true) (hlim : bs.length + n ≤ 140737488355328) :
    Calls Ybad.prog 6 #[.pointer (some ⟨b, q, none⟩), .slice (some a) n c] w fun e w' => e = .returned (.tuple #[.int .i64 n, .nilIface]) ∧ LibA.IsBuffer T R 5 B b q (bs ++ cs) w' ∧ Below B w w' ∧ Lib.OthersKept 5 (some b) w w' := Any.Buffer_Write_at Ybad.laysM180 T R B b q bs cs a n c w h hBw h1 hn hab hsrc h1c hlim
end Go.Proofs
