/-
  DERIVED: THE SHELF's CONTRACTS AT THIS DUMP, IN PLAIN WORDS (tools/lay-plain.mjs out of 'YtpamlgdcnmcedaaGreatDoorShelfD.lean', which tools/lay-shelf.mjs wrote): THE SAME DECLARATIONS UNDER THE SAME NAMES: 'import', 'namespace', 'open', 'def', 'theorem' AND NOTHING ELSE: no command of the shelf's: FOR A HAND-IN. Each laying: the table of numbers ('.._ren') and one theorem, a field a fact of the dump's own or the kernel's comparison; each contract: ONE APPLICATION.
-/
import Derived.Shelf.Unicode.DecodeSlow
import Derived.Shelf.Unicode.DecodeAny
import Derived.Test.YtpamlgdcnmcedaaGreatDoorProg
namespace Go.Proofs
open Go.Shelf
def Tryz.lays197_ren : Go.Shelf.Ren := ⟨fun | 197 => 68 | 260 => 86 | n => n, fun | 9 => 9 | 21 => 21 | 3 => 3 | 4 => 4 | 5 => 5 | 105 => 119 | 119 => 109 | 0 => 0 | 46 => 113 | 139 => 112 | 138 => 111 | n => n, fun | 3 => 0 | 4 => 1 | n => n⟩
theorem Tryz.lays197 : Go.Proofs.Lays.n197 Tryz.prog Tryz.lays197_ren := {
  mixed := by kernel_rfl
  f197 := Tryz.func68.trans (congrArg some (by kernel_rfl))
  f260 := Tryz.func86.trans (congrArg some (by kernel_rfl))
  t0 := Tryz.underlying0
  a0 := Tryz.isAgg0
  z0 := Tryz.sizeOf0
  v0 := Tryz.zeroValue0
  t3 := Tryz.underlying3
  a3 := Tryz.isAgg3
  z3 := Tryz.sizeOf3
  v3 := Tryz.zeroValue3
  t4 := Tryz.underlying4
  a4 := Tryz.isAgg4
  z4 := Tryz.sizeOf4
  v4 := Tryz.zeroValue4
  t5 := Tryz.underlying5
  a5 := Tryz.isAgg5
  z5 := Tryz.sizeOf5
  v5 := Tryz.zeroValue5
  t9 := Tryz.underlying9
  a9 := Tryz.isAgg9
  z9 := Tryz.sizeOf9
  v9 := Tryz.zeroValue9
  t21 := Tryz.underlying21
  a21 := Tryz.isAgg21
  z21 := Tryz.sizeOf21
  v21 := Tryz.zeroValue21
  t46 := Tryz.underlying113
  a46 := Tryz.isAgg113
  z46 := Tryz.sizeOf113
  v46 := Tryz.zeroValue113
  t105 := Tryz.underlying119
  a105 := Tryz.isAgg119
  z105 := Tryz.sizeOf119
  v105 := Tryz.zeroValue119
  t119 := Tryz.underlying109
  a119 := Tryz.isAgg109
  z119 := Tryz.sizeOf109
  t138 := Tryz.underlying111
  a138 := Tryz.isAgg111
  z138 := Tryz.sizeOf111
  v138 := Tryz.zeroValue111
  t139 := Tryz.underlying112
  a139 := Tryz.isAgg112
  z139 := Tryz.sizeOf112
  v139 := Tryz.zeroValue112
  g3 := by kernel_rfl
  g4 := by kernel_rfl }
open Go.RowKit Go.Lib in
/-- **unicode/utf8.DecodeRuneInString AT EVERY STRING.** (LAID: no walk: one application.) -/
theorem Tryz.utf8_DecodeRuneInString (s : ByteArray) (w : World) (hT : Lib.Utf8Tabs 0 1 w) :
    Calls Tryz.prog 68 #[.string s] w fun e w' => e = .returned (.tuple #[.int .i32 (Lib.decodeGo s).1, .int .i64 (Lib.decodeGo s).2]) ∧ Below w.heap.size w w' := Any.utf8_DecodeRuneInString Tryz.lays197 s w hT
end Go.Proofs
