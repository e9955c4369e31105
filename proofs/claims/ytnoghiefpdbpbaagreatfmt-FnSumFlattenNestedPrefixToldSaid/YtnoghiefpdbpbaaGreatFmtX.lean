/-
  Three contracts of the library's at this program, laid by the shelf's tools (lay-shelf, lay-plain): DecodeRuneInString, lookupCaseRange, convertCase.
-/
import Derived.Shelf.Unicode.Decode
import Derived.Shelf.Unicode.DecodeSlow
import Derived.Shelf.Unicode.DecodeAny
import Derived.Shelf.Unicode.CaseLookup
import Derived.Shelf.Unicode.CaseConvert
import Derived.Test.YtnoghiefpdbpbaaGreatFmtProg
namespace Go.Proofs
open Go.Shelf
def Tryz.lays197_ren : Go.Shelf.Ren := ⟨fun | 197 => 29 | 260 => 36 | n => n, fun | 9 => 9 | 21 => 21 | 3 => 3 | 4 => 4 | 5 => 5 | 105 => 71 | 119 => 93 | 0 => 0 | 46 => 84 | 139 => 96 | 138 => 95 | n => n, fun | 3 => 4 | 4 => 5 | n => n⟩
theorem Tryz.lays197 : Go.Proofs.Lays.n197 Tryz.prog Tryz.lays197_ren := {
  mixed := by kernel_rfl
  f197 := Tryz.func29.trans (congrArg some (by kernel_rfl))
  f260 := Tryz.func36.trans (congrArg some (by kernel_rfl))
  t0 := Tryz.underlying0
  a0 := Tryz.isAgg0
  z0 := Tryz.sizeOf0
  v0 := Tryz.zeroValue0
  t3 := Tryz.underlying3
  a3 := Tryz.isAgg3
  z3 := Tryz.sizeOf3
  v3 := Tryz.zeroValue3
  t4 := Tryz.underlying4
  a4 := Tryz.isAgg4
  z4 := Tryz.sizeOf4
  v4 := Tryz.zeroValue4
  t5 := Tryz.underlying5
  a5 := Tryz.isAgg5
  z5 := Tryz.sizeOf5
  v5 := Tryz.zeroValue5
  t9 := Tryz.underlying9
  a9 := Tryz.isAgg9
  z9 := Tryz.sizeOf9
  v9 := Tryz.zeroValue9
  t21 := Tryz.underlying21
  a21 := Tryz.isAgg21
  z21 := Tryz.sizeOf21
  v21 := Tryz.zeroValue21
  t46 := Tryz.underlying84
  a46 := Tryz.isAgg84
  z46 := Tryz.sizeOf84
  v46 := Tryz.zeroValue84
  t105 := Tryz.underlying71
  a105 := Tryz.isAgg71
  z105 := Tryz.sizeOf71
  v105 := Tryz.zeroValue71
  t119 := Tryz.underlying93
  a119 := Tryz.isAgg93
  z119 := Tryz.sizeOf93
  t138 := Tryz.underlying95
  a138 := Tryz.isAgg95
  z138 := Tryz.sizeOf95
  v138 := Tryz.zeroValue95
  t139 := Tryz.underlying96
  a139 := Tryz.isAgg96
  z139 := Tryz.sizeOf96
  v139 := Tryz.zeroValue96
  g3 := by kernel_rfl
  g4 := by kernel_rfl }
open Go.RowKit Go.Lib in
/-- **unicode/utf8.DecodeRuneInString AT EVERY STRING.** (LAID: no walk: one application.) -/
theorem Tryz.utf8_DecodeRuneInString (s : ByteArray) (w : World) (hT : Lib.Utf8Tabs 4 5 w) :
    Calls Tryz.prog 29 #[.string s] w fun e w' => e = .returned (.tuple #[.int .i32 (Lib.decodeGo s).1, .int .i64 (Lib.decodeGo s).2]) ∧ Below w.heap.size w w' := Any.utf8_DecodeRuneInString Tryz.lays197 s w hT
def Tryz.lays274_ren : Go.Shelf.Ren := ⟨fun | 274 => 37 | n => n, fun | 21 => 21 | 162 => 89 | 160 => 87 | 3 => 3 | 4 => 4 | 46 => 84 | 0 => 0 | 208 => 101 | 51 => 97 | 206 => 99 | n => n, fun | n => n⟩
theorem Tryz.lays274 : Go.Proofs.Lays.n274 Tryz.prog Tryz.lays274_ren := {
  mixed := by kernel_rfl
  f274 := Tryz.func37.trans (congrArg some (by kernel_rfl))
  t0 := Tryz.underlying0
  a0 := Tryz.isAgg0
  z0 := Tryz.sizeOf0
  v0 := Tryz.zeroValue0
  t3 := Tryz.underlying3
  a3 := Tryz.isAgg3
  z3 := Tryz.sizeOf3
  v3 := Tryz.zeroValue3
  t4 := Tryz.underlying4
  a4 := Tryz.isAgg4
  z4 := Tryz.sizeOf4
  v4 := Tryz.zeroValue4
  t21 := Tryz.underlying21
  a21 := Tryz.isAgg21
  z21 := Tryz.sizeOf21
  v21 := Tryz.zeroValue21
  t46 := Tryz.underlying84
  a46 := Tryz.isAgg84
  z46 := Tryz.sizeOf84
  v46 := Tryz.zeroValue84
  t51 := Tryz.underlying97
  a51 := Tryz.isAgg97
  z51 := Tryz.sizeOf97
  v51 := Tryz.zeroValue97
  t160 := Tryz.underlying87
  a160 := Tryz.isAgg87
  z160 := Tryz.sizeOf87
  v160 := Tryz.zeroValue87
  t162 := Tryz.underlying89
  a162 := Tryz.isAgg89
  z162 := Tryz.sizeOf89
  v162 := Tryz.zeroValue89
  t208 := Tryz.underlying101
  a208 := Tryz.isAgg101
  z208 := Tryz.sizeOf101
  v208 := Tryz.zeroValue101 }
open Go.RowKit Go.Lib in
theorem Tryz.unicode_lookupCaseRange (T : Array CaseRow) (R oR cap : Nat) (r : Int) (w : World) (hT : CaseTab R oR T w) (hok : CaseOk T) (hn : T.size ≤ 1000000000) :
    Calls Tryz.prog 37 #[.int .i32 r, .slice (some ⟨R, oR, none⟩) T.size cap] w fun e w' =>
      e = .returned (match lookupIdx T r (T.size + 1) 0 T.size with | some i => .pointer (some ⟨R, oR + i * 5, none⟩) | none => .pointer none) ∧ w' = w := Any.unicode_lookupCaseRange Tryz.lays274 T R oR cap r w hT hok hn
def Tryz.lays275_ren : Go.Shelf.Ren := ⟨fun | 275 => 38 | n => n, fun | 3 => 3 | 21 => 21 | 160 => 87 | 0 => 0 | 208 => 101 | 206 => 99 | 4 => 4 | 51 => 97 | n => n, fun | n => n⟩
theorem Tryz.lays275 : Go.Proofs.Lays.n275 Tryz.prog Tryz.lays275_ren := {
  mixed := by kernel_rfl
  f275 := Tryz.func38.trans (congrArg some (by kernel_rfl))
  t0 := Tryz.underlying0
  a0 := Tryz.isAgg0
  z0 := Tryz.sizeOf0
  v0 := Tryz.zeroValue0
  t3 := Tryz.underlying3
  a3 := Tryz.isAgg3
  z3 := Tryz.sizeOf3
  v3 := Tryz.zeroValue3
  t4 := Tryz.underlying4
  a4 := Tryz.isAgg4
  z4 := Tryz.sizeOf4
  v4 := Tryz.zeroValue4
  t21 := Tryz.underlying21
  a21 := Tryz.isAgg21
  z21 := Tryz.sizeOf21
  v21 := Tryz.zeroValue21
  t51 := Tryz.underlying97
  a51 := Tryz.isAgg97
  z51 := Tryz.sizeOf97
  v51 := Tryz.zeroValue97
  t160 := Tryz.underlying87
  a160 := Tryz.isAgg87
  z160 := Tryz.sizeOf87
  v160 := Tryz.zeroValue87
  t206 := Tryz.underlying99
  a206 := Tryz.isAgg99
  z206 := Tryz.sizeOf99
  v206 := Tryz.zeroValue99
  t208 := Tryz.underlying101
  a208 := Tryz.isAgg101
  z208 := Tryz.sizeOf101
  v208 := Tryz.zeroValue101 }
open Go.RowKit Go.Lib in
theorem Tryz.unicode_convertCase (c : Nat) (hc : c < 3) (r : Int) (A o : Nat) (x : CaseRow) (w : World) (hlo : (x.1 : Int) ≤ r) (hhi : r ≤ (x.2.1 : Int)) (hH : x.2.1 < 2147483647) (c0 : w.cell? ⟨A, o, none⟩ = some (.int .u32 x.1)) (cD : w.cell? ⟨A, o + 2 + c, none⟩ = some (.int .i32 (x.delta c))) :
    Calls Tryz.prog 38 #[.int .i64 c, .int .i32 r, .pointer (some ⟨A, o, none⟩)] w fun e w' => e = .returned (.int .i32 (wrap32 (convertR c r x))) ∧ ∃ q, w' = w.drewN q := Any.unicode_convertCase Tryz.lays275 c hc r A o x w hlo hhi hH c0 cD
end Go.Proofs
