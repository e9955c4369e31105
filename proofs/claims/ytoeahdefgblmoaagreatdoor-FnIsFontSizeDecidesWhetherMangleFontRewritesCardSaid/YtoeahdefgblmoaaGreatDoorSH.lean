/-
  DERIVED: THE SHELF's CONTRACTS AT THIS DUMP, IN PLAIN WORDS (tools/lay-plain.mjs out of 'TryzShelf.lean', which tools/lay-shelf.mjs wrote): THE SAME DECLARATIONS UNDER THE SAME NAMES: 'import', 'namespace', 'open', 'def', 'theorem' AND NOTHING ELSE: no command of the shelf's: FOR A HAND-IN. Each laying: the table of numbers ('.._ren') and one theorem, a field a fact of the dump's own or the kernel's comparison; each contract: ONE APPLICATION.
-/
import Derived.Test.YtoeahdefgblmoaaGreatDoorX
import Derived.Shelf.Strings.OnBuilder
import Derived.Lib.LaidCase
import Derived.Lib.LaidU8
import Derived.Shelf.Strconv.Itoa0
import Derived.Shelf.LaysM
import Derived.Shelf.Strings.CaseAny
import Derived.Test.YtoeahdefgblmoaaGreatDoorProg
namespace Go.Proofs
open Go.Shelf
def Tryz.lays260_ren : Go.Shelf.Ren := ⟨fun | 260 => 50 | n => n, fun | 9 => 9 | 21 => 21 | 3 => 3 | 4 => 4 | 5 => 5 | 119 => 146 | 0 => 0 | 46 => 147 | 139 => 150 | 138 => 149 | n => n, fun | 3 => 7 | 4 => 8 | n => n⟩
theorem Tryz.lays260 : Go.Proofs.Lays.n260 Tryz.prog Tryz.lays260_ren := {
  mixed := by kernel_rfl
  f260 := Tryz.func50.trans (congrArg some (by kernel_rfl))
  t0 := Tryz.underlying0
  a0 := Tryz.isAgg0
  z0 := Tryz.sizeOf0
  v0 := Tryz.zeroValue0
  t3 := Tryz.underlying3
  a3 := Tryz.isAgg3
  z3 := Tryz.sizeOf3
  v3 := Tryz.zeroValue3
  t4 := Tryz.underlying4
  a4 := Tryz.isAgg4
  z4 := Tryz.sizeOf4
  v4 := Tryz.zeroValue4
  t5 := Tryz.underlying5
  a5 := Tryz.isAgg5
  z5 := Tryz.sizeOf5
  v5 := Tryz.zeroValue5
  t9 := Tryz.underlying9
  a9 := Tryz.isAgg9
  z9 := Tryz.sizeOf9
  v9 := Tryz.zeroValue9
  t21 := Tryz.underlying21
  a21 := Tryz.isAgg21
  z21 := Tryz.sizeOf21
  v21 := Tryz.zeroValue21
  t46 := Tryz.underlying147
  a46 := Tryz.isAgg147
  z46 := Tryz.sizeOf147
  v46 := Tryz.zeroValue147
  t119 := Tryz.underlying146
  a119 := Tryz.isAgg146
  z119 := Tryz.sizeOf146
  t138 := Tryz.underlying149
  a138 := Tryz.isAgg149
  z138 := Tryz.sizeOf149
  v138 := Tryz.zeroValue149
  t139 := Tryz.underlying150
  a139 := Tryz.isAgg150
  z139 := Tryz.sizeOf150
  v139 := Tryz.zeroValue150
  g3 := by kernel_rfl
  g4 := by kernel_rfl }
def Tryz.lays274_ren : Go.Shelf.Ren := ⟨fun | 274 => 62 | n => n, fun | 21 => 21 | 162 => 134 | 160 => 151 | 3 => 3 | 4 => 4 | 46 => 147 | 0 => 0 | 208 => 185 | 51 => 28 | 206 => 183 | n => n, fun | n => n⟩
theorem Tryz.lays274 : Go.Proofs.Lays.n274 Tryz.prog Tryz.lays274_ren := {
  mixed := by kernel_rfl
  f274 := Tryz.func62.trans (congrArg some (by kernel_rfl))
  t0 := Tryz.underlying0
  a0 := Tryz.isAgg0
  z0 := Tryz.sizeOf0
  v0 := Tryz.zeroValue0
  t3 := Tryz.underlying3
  a3 := Tryz.isAgg3
  z3 := Tryz.sizeOf3
  v3 := Tryz.zeroValue3
  t4 := Tryz.underlying4
  a4 := Tryz.isAgg4
  z4 := Tryz.sizeOf4
  v4 := Tryz.zeroValue4
  t21 := Tryz.underlying21
  a21 := Tryz.isAgg21
  z21 := Tryz.sizeOf21
  v21 := Tryz.zeroValue21
  t46 := Tryz.underlying147
  a46 := Tryz.isAgg147
  z46 := Tryz.sizeOf147
  v46 := Tryz.zeroValue147
  t51 := Tryz.underlying28
  a51 := Tryz.isAgg28
  z51 := Tryz.sizeOf28
  v51 := Tryz.zeroValue28
  t160 := Tryz.underlying151
  a160 := Tryz.isAgg151
  z160 := Tryz.sizeOf151
  v160 := Tryz.zeroValue151
  t162 := Tryz.underlying134
  a162 := Tryz.isAgg134
  z162 := Tryz.sizeOf134
  v162 := Tryz.zeroValue134
  t208 := Tryz.underlying185
  a208 := Tryz.isAgg185
  z208 := Tryz.sizeOf185
  v208 := Tryz.zeroValue185 }
def Tryz.lays129_ren : Go.Shelf.Ren := ⟨fun | 129 => 84 | n => n, fun | 53 => 156 | 3 => 3 | 4 => 4 | 46 => 147 | 5 => 5 | 9 => 9 | n => n, fun | n => n⟩
theorem Tryz.lays129 : Go.Proofs.Lays.n129 Tryz.prog Tryz.lays129_ren := {
  mixed := by kernel_rfl
  f129 := Tryz.func84.trans (congrArg some (by kernel_rfl))
  t3 := Tryz.underlying3
  a3 := Tryz.isAgg3
  z3 := Tryz.sizeOf3
  v3 := Tryz.zeroValue3
  t4 := Tryz.underlying4
  a4 := Tryz.isAgg4
  z4 := Tryz.sizeOf4
  v4 := Tryz.zeroValue4
  t5 := Tryz.underlying5
  a5 := Tryz.isAgg5
  z5 := Tryz.sizeOf5
  v5 := Tryz.zeroValue5
  t9 := Tryz.underlying9
  a9 := Tryz.isAgg9
  z9 := Tryz.sizeOf9
  v9 := Tryz.zeroValue9
  t46 := Tryz.underlying147
  a46 := Tryz.isAgg147
  z46 := Tryz.sizeOf147
  v46 := Tryz.zeroValue147
  t53 := Tryz.underlying156
  a53 := Tryz.isAgg156
  z53 := Tryz.sizeOf156
  v53 := Tryz.zeroValue156 }
/-- bits.Len64: "Len64 returns the minimum number of bits required to represent x; the result is 0 for x == 0.": IT RETURNS 'Lib.bitLen x'; the world is as it was. ('h0', 'h1': x is a uint64.) (LAID: no walk: one application.) -/
theorem Tryz.bits_Len64 (x : Int) (w : World) (h0 : 0 ≤ x) (h1 : x ≤ 18446744073709551615) :
    Calls Tryz.prog 84 #[.int .u64 x] w fun e w' => e = .returned (.int .i64 (Lib.bitLen x.toNat)) ∧ w' = w := Any.bits_Len64 Tryz.lays129 x w h0 h1
open Go.RowKit Go.Lib in
/-- **strings.ToLower AT EVERY STRING, VALID UTF-8 OR NOT.** (LAID: no walk: one application.) -/
theorem Tryz.strings_ToLower_any (s : ByteArray) (w : World) (hs : s.size < 35184372088832) (hV : CaseVar 2 caseA w) (hT : Lib.Utf8Tabs 7 8 w) :
    Calls Tryz.prog 19 #[.string s] w fun e w' => e = .returned (.string ⟨(Lib.toLowerD s.data.toList).toArray⟩) ∧ Below w.heap.size w w' := Any.strings_ToLower_any Tryz.lays159 Tryz.Builder_Extra_159 s w hs hV hT
end Go.Proofs
