/-
  DERIVED: THE SHELF's CONTRACTS AT THIS DUMP, IN PLAIN WORDS (tools/lay-plain.mjs out of 'YtpamlgdcnmcedaaDoorShelfR.lean', which tools/lay-shelf.mjs wrote): THE SAME DECLARATIONS UNDER THE SAME NAMES: 'import', 'namespace', 'open', 'def', 'theorem' AND NOTHING ELSE: no command of the shelf's: FOR A HAND-IN. Each laying: the table of numbers ('.._ren') and one theorem, a field a fact of the dump's own or the kernel's comparison; each contract: ONE APPLICATION.
-/
import Derived.Shelf.Strings.Repeat
import Derived.Test.YtpamlgdcnmcedaaDoorProg
namespace Go.Proofs
open Go.Shelf
def Tryd.lays105_ren : Go.Shelf.Ren := ⟨fun | 105 => 64 | 212 => 73 | 99 => 56 | 165 => 74 | 166 => 75 | 170 => 76 | 169 => 77 | 263 => 84 | 264 => 85 | 206 => 68 | 240 => 86 | 241 => 87 | 276 => 95 | 277 => 96 | n => n, fun | 9 => 9 | 3 => 3 | 4 => 4 | 20 => 20 | 0 => 0 | 46 => 62 | 109 => 114 | 5 => 5 | 72 => 119 | 76 => 121 | 51 => 126 | 146 => 127 | 53 => 80 | 148 => 129 | 70 => 116 | 37 => 117 | 75 => 75 | 127 => 131 | 164 => 138 | 80 => 124 | n => n, fun | n => n⟩
theorem Tryd.lays105 : Go.Proofs.Lays.n105 Tryd.prog Tryd.lays105_ren := {
  mixed := by kernel_rfl
  f99 := Tryd.func56.trans (congrArg some (by kernel_rfl))
  f105 := Tryd.func64.trans (congrArg some (by kernel_rfl))
  f165 := Tryd.func74.trans (congrArg some (by kernel_rfl))
  f166 := Tryd.func75.trans (congrArg some (by kernel_rfl))
  f169 := Tryd.func77.trans (congrArg some (by kernel_rfl))
  f170 := Tryd.func76.trans (congrArg some (by kernel_rfl))
  f206 := Tryd.func68.trans (congrArg some (by kernel_rfl))
  f212 := Tryd.func73.trans (congrArg some (by kernel_rfl))
  f240 := Tryd.func86.trans (congrArg some (by kernel_rfl))
  f241 := Tryd.func87.trans (congrArg some (by kernel_rfl))
  f263 := Tryd.func84.trans (congrArg some (by kernel_rfl))
  f264 := Tryd.func85.trans (congrArg some (by kernel_rfl))
  f276 := Tryd.func95.trans (congrArg some (by kernel_rfl))
  f277 := Tryd.func96.trans (congrArg some (by kernel_rfl))
  t0 := Tryd.underlying0
  a0 := Tryd.isAgg0
  z0 := Tryd.sizeOf0
  v0 := Tryd.zeroValue0
  t3 := Tryd.underlying3
  a3 := Tryd.isAgg3
  z3 := Tryd.sizeOf3
  v3 := Tryd.zeroValue3
  t4 := Tryd.underlying4
  a4 := Tryd.isAgg4
  z4 := Tryd.sizeOf4
  v4 := Tryd.zeroValue4
  t5 := Tryd.underlying5
  a5 := Tryd.isAgg5
  z5 := Tryd.sizeOf5
  v5 := Tryd.zeroValue5
  t9 := Tryd.underlying9
  a9 := Tryd.isAgg9
  z9 := Tryd.sizeOf9
  v9 := Tryd.zeroValue9
  t20 := Tryd.underlying20
  a20 := Tryd.isAgg20
  z20 := Tryd.sizeOf20
  v20 := Tryd.zeroValue20
  t37 := Tryd.underlying117
  a37 := Tryd.isAgg117
  z37 := Tryd.sizeOf117
  v37 := Tryd.zeroValue117
  t46 := Tryd.underlying62
  a46 := Tryd.isAgg62
  z46 := Tryd.sizeOf62
  v46 := Tryd.zeroValue62
  t51 := Tryd.underlying126
  a51 := Tryd.isAgg126
  z51 := Tryd.sizeOf126
  v51 := Tryd.zeroValue126
  t53 := Tryd.underlying80
  a53 := Tryd.isAgg80
  z53 := Tryd.sizeOf80
  v53 := Tryd.zeroValue80
  t70 := Tryd.underlying116
  a70 := Tryd.isAgg116
  z70 := Tryd.sizeOf116
  v70 := Tryd.zeroValue116
  t72 := Tryd.underlying119
  a72 := Tryd.isAgg119
  z72 := Tryd.sizeOf119
  v72 := Tryd.zeroValue119
  t75 := Tryd.underlying75
  a75 := Tryd.isAgg75
  z75 := Tryd.sizeOf75
  v75 := Tryd.zeroValue75
  t76 := Tryd.underlying121
  a76 := Tryd.isAgg121
  z76 := Tryd.sizeOf121
  v76 := Tryd.zeroValue121
  t109 := Tryd.underlying114
  a109 := Tryd.isAgg114
  z109 := Tryd.sizeOf114
  v109 := Tryd.zeroValue114
  t127 := Tryd.underlying131
  a127 := Tryd.isAgg131
  z127 := Tryd.sizeOf131
  v127 := Tryd.zeroValue131
  t146 := Tryd.underlying127
  a146 := Tryd.isAgg127
  z146 := Tryd.sizeOf127
  v146 := Tryd.zeroValue127
  t148 := Tryd.underlying129
  a148 := Tryd.isAgg129
  z148 := Tryd.sizeOf129
  v148 := Tryd.zeroValue129
  t164 := Tryd.underlying138
  a164 := Tryd.isAgg138
  z164 := Tryd.sizeOf138
  v164 := Tryd.zeroValue138 }
theorem Tryd.Builder_Extra_105 : Builder.Extra Tryd.prog Tryd.lays105_ren := {
  sizeBuilder := by kernel_rfl
  liesBuilder := by kernel_rfl
  t5 := Tryd.underlying5
  a5 := Tryd.isAgg5
  z5 := Tryd.sizeOf5
  v5 := Tryd.zeroValue5
  infoByte := by kernel_rfl
  cellsByte := by kernel_rfl
  sizeByte := by kernel_rfl
  neB5 := by decide }
open Go.RowKit Go.Lib in
theorem Tryd.strings_Repeat (s : ByteArray) (c : Nat) (w : World) (hc : c ≤ 9223372036854775807) (hlen : s.size * c ≤ 140737488355328) :
    Calls Tryd.prog 64 #[.string s, .int .i64 c] w fun e w' => e = .returned (.string ⟨(Lib.repeatL s.data.toList c).toArray⟩) ∧ Below w.heap.size w w' := Any.strings_Repeat Tryd.lays105 Tryd.Builder_Extra_105 s c w hc hlen

end Go.Proofs
