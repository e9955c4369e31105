/-
  The laid tables of the row FnSumFlattenNestedPrefix.
-/
import Derived.Test.YtnoghiefpdbpbaaGreatFmtW3
import Derived.Test.YtnoghiefpdbpbaaGreatFmtRows
import Derived.Lib.LaidU8
import Derived.Lib.LaidCase
namespace Go.Proofs.YtnoghiefpdbpbaaGreatFmt
open Go.RowKit Go.Deep Go.PlainAid Go.Shelf Go.Lib

theorem Tryz.lays260 : Go.Proofs.Lays.n260 Tryz.prog Tryz.lays197_ren := {
  mixed := Tryz.lays197.mixed
  f260 := Tryz.lays197.f260
  t0 := Tryz.lays197.t0
  a0 := Tryz.lays197.a0
  z0 := Tryz.lays197.z0
  v0 := Tryz.lays197.v0
  t3 := Tryz.lays197.t3
  a3 := Tryz.lays197.a3
  z3 := Tryz.lays197.z3
  v3 := Tryz.lays197.v3
  t4 := Tryz.lays197.t4
  a4 := Tryz.lays197.a4
  z4 := Tryz.lays197.z4
  v4 := Tryz.lays197.v4
  t5 := Tryz.lays197.t5
  a5 := Tryz.lays197.a5
  z5 := Tryz.lays197.z5
  v5 := Tryz.lays197.v5
  t9 := Tryz.lays197.t9
  a9 := Tryz.lays197.a9
  z9 := Tryz.lays197.z9
  v9 := Tryz.lays197.v9
  t21 := Tryz.lays197.t21
  a21 := Tryz.lays197.a21
  z21 := Tryz.lays197.z21
  v21 := Tryz.lays197.v21
  t46 := Tryz.lays197.t46
  a46 := Tryz.lays197.a46
  z46 := Tryz.lays197.z46
  v46 := Tryz.lays197.v46
  t119 := Tryz.lays197.t119
  a119 := Tryz.lays197.a119
  z119 := Tryz.lays197.z119
  t138 := Tryz.lays197.t138
  a138 := Tryz.lays197.a138
  z138 := Tryz.lays197.z138
  v138 := Tryz.lays197.v138
  t139 := Tryz.lays197.t139
  a139 := Tryz.lays197.a139
  z139 := Tryz.lays197.z139
  v139 := Tryz.lays197.v139
  g3 := Tryz.lays197.g3
  g4 := Tryz.lays197.g4
}

theorem u8x : U8Extra Tryz.prog Tryz.lays197_ren := ⟨by kernel_rfl, by kernel_rfl, by kernel_rfl, by kernel_rfl, by kernel_rfl, by kernel_rfl, by kernel_rfl⟩
theorem casex : CaseExtra Tryz.prog ⟨Tryz.lays274_ren.f, Tryz.lays274_ren.t, fun | 13 => 2 | n => n⟩ := ⟨by kernel_rfl, by kernel_rfl, by kernel_rfl, by kernel_rfl, by kernel_rfl, by kernel_rfl⟩

theorem firstD : Rows.laid_unicode_utf8_first = Lib.firstData := by kernel_rfl
theorem acceptD : Rows.laid_unicode_utf8_acceptRanges = Lib.acceptData := by kernel_rfl
set_option maxRecDepth 100000 in
theorem utf_of {W : World} (hL : laidMet Tryz.prog Rows.fnSumFlattenNestedPrefixRow.laid W) : Lib.Utf8Tabs 4 5 W :=
  utf8Tabs_of_reads (P := Tryz.prog) (ρ := Tryz.lays197_ren) Tryz.lays260 u8x (firstD ▸ Lib.laidMet.reads hL (n := "unicode/utf8.first") (d := Rows.laid_unicode_utf8_first) (.tail _ (.tail _ (.tail _ (.tail _ (.head _))))))
    (acceptD ▸ Lib.laidMet.reads hL (n := "unicode/utf8.acceptRanges") (d := Rows.laid_unicode_utf8_acceptRanges) (.head _))

theorem caseD : Rows.laid_unicode_CaseRanges = Lib.caseData := by kernel_rfl
set_option maxRecDepth 100000 in
theorem case_of {W : World} (hL : laidMet Tryz.prog Rows.fnSumFlattenNestedPrefixRow.laid W) : CaseVar 2 caseA W :=
  caseVar_of_reads (P := Tryz.prog) (ρ := ⟨Tryz.lays274_ren.f, Tryz.lays274_ren.t, fun | 13 => 2 | n => n⟩) { mixed := Tryz.lays274.mixed, f274 := Tryz.lays274.f274, t0 := Tryz.lays274.t0, a0 := Tryz.lays274.a0, z0 := Tryz.lays274.z0, v0 := Tryz.lays274.v0, t3 := Tryz.lays274.t3, a3 := Tryz.lays274.a3, z3 := Tryz.lays274.z3, v3 := Tryz.lays274.v3, t4 := Tryz.lays274.t4, a4 := Tryz.lays274.a4, z4 := Tryz.lays274.z4, v4 := Tryz.lays274.v4, t21 := Tryz.lays274.t21, a21 := Tryz.lays274.a21, z21 := Tryz.lays274.z21, v21 := Tryz.lays274.v21, t46 := Tryz.lays274.t46, a46 := Tryz.lays274.a46, z46 := Tryz.lays274.z46, v46 := Tryz.lays274.v46, t51 := Tryz.lays274.t51, a51 := Tryz.lays274.a51, z51 := Tryz.lays274.z51, v51 := Tryz.lays274.v51, t160 := Tryz.lays274.t160, a160 := Tryz.lays274.a160, z160 := Tryz.lays274.z160, v160 := Tryz.lays274.v160, t162 := Tryz.lays274.t162, a162 := Tryz.lays274.a162, z162 := Tryz.lays274.z162, v162 := Tryz.lays274.v162, t208 := Tryz.lays274.t208, a208 := Tryz.lays274.a208, z208 := Tryz.lays274.z208, v208 := Tryz.lays274.v208 } (by kernel_rfl) casex (caseD ▸ Lib.laidMet.reads hL (n := "unicode.CaseRanges") (d := Rows.laid_unicode_CaseRanges) (.tail _ (.tail _ (.tail _ (.head _)))))
end Go.Proofs.YtnoghiefpdbpbaaGreatFmt
