/-
  DERIVED. GIVEN WITH THE SEED: THE CARDS: each row of YtnoghiefpdbpbaaGreatFmtRows.lean that lists a variable, with what it lists TIED to the program's text (the seventh form; the later family's looks); each row that meets fmt, with fmt's text TOLD by the authors' own Lean function (tested against real Go, not proved from fmt's source: count such statements apart). THE CARD IS WHAT COUNTS. Prove the row's statement (the work); the ties are given (YtnoghiefpdbpbaaGreatFmtTie.lean); close each card by the builder's one call (the guide's Derived/Test/ToyasCard.lean, 'card_holds'). Laid BY PROGRAM, IN A SANDBOX (cutbox-door.mjs). By AI agents, Wed Nov 11 2026. No macro, syntax, notation, axiom, sorry.
-/
import Derived.Test.YtnoghiefpdbpbaaGreatFmtRows
import GoSem.ClaimSeven
namespace Go.Proofs.YtnoghiefpdbpbaaGreatFmt
namespace Rows

/-- THE TOLD AND TIED CARD OF 'n011_71.FnSumSimplifyGroupsByUnit'. -/
def fnSumSimplifyGroupsByUnitCard : Claim7 := { stood := { row := fnSumSimplifyGroupsByUnitRow, standIns := [], harness := (true, "40c7dca622598fbf8d9693f6e3a5a935467ba3e9b7d588a28c4cb47e580ca92b"), looks := true }, told := true, laidByText := true, laidKinds := [.data, .data, .data, .pinned, .pinned], laidTests := true, laidLooks := .later, goes := false }
def FnSumSimplifyGroupsByUnitToldSaid : Prop := Claim7.holds Tryz.pinned (.plain (OpenSpec.ofChange fnSumSimplifyGroupsByUnitSpec)) fnSumSimplifyGroupsByUnitCard
/-- ITS FALSE NEIGHBOUR. Refute it at one input. -/
def FnSumSimplifyGroupsByUnitToldWrongFalsely : Prop := Claim7.holds Tryz.pinned (.plain (OpenSpec.ofChange fnSumSimplifyGroupsByUnitWrong)) fnSumSimplifyGroupsByUnitCard

/-- THE TOLD AND TIED CARD OF 'n011_71.FnProductOfPlainNumbersFoldsToOneNumber'. -/
def fnProductOfPlainNumbersFoldsToOneNumberCard : Claim7 := { stood := { row := fnProductOfPlainNumbersFoldsToOneNumberRow, standIns := [], harness := (true, "40c7dca622598fbf8d9693f6e3a5a935467ba3e9b7d588a28c4cb47e580ca92b"), looks := true }, told := true, laidByText := true, laidKinds := [.data, .data, .widerDeep, .widerDeep, .data, .data, .data, .data, .data, .sentinel, .sentinel, .pinned, .pinned], laidTests := true, laidLooks := .later, goes := false }
def FnProductOfPlainNumbersFoldsToOneNumberToldSaid : Prop := Claim7.holds Tryz.pinned (.plain (OpenSpec.ofChange fnProductOfPlainNumbersFoldsToOneNumberSpec)) fnProductOfPlainNumbersFoldsToOneNumberCard
/-- ITS FALSE NEIGHBOUR. Refute it at one input. -/
def FnProductOfPlainNumbersFoldsToOneNumberToldWrongFalsely : Prop := Claim7.holds Tryz.pinned (.plain (OpenSpec.ofChange fnProductOfPlainNumbersFoldsToOneNumberWrong)) fnProductOfPlainNumbersFoldsToOneNumberCard

/-- THE TOLD AND TIED CARD OF 'n011_71.FnSumFlattenNestedPrefix'. -/
def fnSumFlattenNestedPrefixCard : Claim7 := { stood := { row := fnSumFlattenNestedPrefixRow, standIns := [], harness := (true, "40c7dca622598fbf8d9693f6e3a5a935467ba3e9b7d588a28c4cb47e580ca92b"), looks := true }, told := true, laidByText := true, laidKinds := [.data, .data, .data, .pinned, .pinned], laidTests := true, laidLooks := .later, goes := false }
def FnSumFlattenNestedPrefixToldSaid : Prop := Claim7.holds Tryz.pinned (.plain (OpenSpec.ofChange fnSumFlattenNestedPrefixSpec)) fnSumFlattenNestedPrefixCard
/-- ITS FALSE NEIGHBOUR. Refute it at one input. -/
def FnSumFlattenNestedPrefixToldWrongFalsely : Prop := Claim7.holds Tryz.pinned (.plain (OpenSpec.ofChange fnSumFlattenNestedPrefixWrong)) fnSumFlattenNestedPrefixCard

/-- THE TOLD AND TIED CARD OF 'n011_71.FnProductWithOneDimensionScalesIt'. -/
def fnProductWithOneDimensionScalesItCard : Claim7 := { stood := { row := fnProductWithOneDimensionScalesItRow, standIns := [], harness := (true, "40c7dca622598fbf8d9693f6e3a5a935467ba3e9b7d588a28c4cb47e580ca92b"), looks := true }, told := true, laidByText := true, laidKinds := [.data, .data, .widerDeep, .widerDeep, .data, .data, .data, .data, .data, .sentinel, .sentinel, .pinned, .pinned], laidTests := true, laidLooks := .later, goes := false }
def FnProductWithOneDimensionScalesItToldSaid : Prop := Claim7.holds Tryz.pinned (.plain (OpenSpec.ofChange fnProductWithOneDimensionScalesItSpec)) fnProductWithOneDimensionScalesItCard
/-- ITS FALSE NEIGHBOUR. Refute it at one input. -/
def FnProductWithOneDimensionScalesItToldWrongFalsely : Prop := Claim7.holds Tryz.pinned (.plain (OpenSpec.ofChange fnProductWithOneDimensionScalesItWrong)) fnProductWithOneDimensionScalesItCard
end Rows
end Go.Proofs.YtnoghiefpdbpbaaGreatFmt
