/-
  DERIVED. GIVEN WITH THE SEED: THE CARDS: each row of YthbfppnegodpoaaGreatDoorRows.lean that lists a variable, with what it lists TIED to the program's text (the seventh form; the later family's looks); each row that meets fmt, with fmt's text TOLD by the authors' own Lean function (tested against real Go, not proved from fmt's source: count such statements apart). THE CARD IS WHAT COUNTS. Prove the row's statement (the work); the ties are given (YthbfppnegodpoaaGreatDoorTie.lean); close each card by the builder's one call (the guide's Derived/Test/ToyasCard.lean, 'card_holds'). Laid BY PROGRAM, IN A SANDBOX (cutbox-door.mjs). By AI agents, Wed Nov 11 2026. No macro, syntax, notation, axiom, sorry.
-/
import Derived.Test.YthbfppnegodpoaaGreatDoorRows
import GoSem.ClaimSeven
namespace Go.Proofs.YthbfppnegodpoaaGreatDoor
namespace Rows

/-- THE TIED CARD OF 'n011_172.FnParsedNumberIsSimplifyFixedPoint'. -/
def fnParsedNumberIsSimplifyFixedPointCard : Claim7 := { stood := { row := fnParsedNumberIsSimplifyFixedPointRow, standIns := [], harness := (true, "d14e84895abd5ffa00984e7fa7a250e87fe0e945cc91864a2b241086c3cad713"), looks := true }, kinds := [], alts := [], laidByText := true, laidKinds := [.data, .data, .widerDeep, .widerDeep, .data, .data, .data, .data, .data, .data, .sentinel, .sentinel, .data, .data, .pinned, .pinned, .pinned, .pinned], laidTests := true, laidLooks := .later }
def FnParsedNumberIsSimplifyFixedPointCardSaid : Prop := Claim7.holds Tryz.pinned (.plain (OpenSpec.ofChange fnParsedNumberIsSimplifyFixedPointSpec)) fnParsedNumberIsSimplifyFixedPointCard

/-- THE TIED CARD OF 'n011_172.FnParseCalcParenIsTransparent'. -/
def fnParseCalcParenIsTransparentCard : Claim7 := { stood := { row := fnParseCalcParenIsTransparentRow, standIns := [], harness := (true, "d14e84895abd5ffa00984e7fa7a250e87fe0e945cc91864a2b241086c3cad713"), looks := true }, kinds := [], alts := [], laidByText := true, laidKinds := [.data, .data, .widerDeep, .widerDeep, .data, .data, .data, .data, .data, .data, .sentinel, .sentinel, .data, .data, .pinned, .pinned, .pinned, .pinned], laidTests := true, laidLooks := .later }
def FnParseCalcParenIsTransparentCardSaid : Prop := Claim7.holds Tryz.pinned (.plain (OpenSpec.ofChange fnParseCalcParenIsTransparentSpec)) fnParseCalcParenIsTransparentCard

/-- THE TIED CARD OF 'n011_172.FnParseCalcRefusesEvenLengthOrVar'. -/
def fnParseCalcRefusesEvenLengthOrVarCard : Claim7 := { stood := { row := fnParseCalcRefusesEvenLengthOrVarRow, standIns := [], harness := (true, "d14e84895abd5ffa00984e7fa7a250e87fe0e945cc91864a2b241086c3cad713"), looks := true }, kinds := [], alts := [], laidByText := true, laidKinds := [.data, .data, .widerDeep, .widerDeep, .data, .data, .data, .data, .data, .data, .sentinel, .sentinel, .data, .data, .pinned, .pinned, .pinned, .pinned], laidTests := true, laidLooks := .later }
def FnParseCalcRefusesEvenLengthOrVarCardSaid : Prop := Claim7.holds Tryz.pinned (.plain (OpenSpec.ofChange fnParseCalcRefusesEvenLengthOrVarSpec)) fnParseCalcRefusesEvenLengthOrVarCard

/-- THE TIED CARD OF 'n011_172.FnParsedIdentIsSimplifyFixedPoint'. -/
def fnParsedIdentIsSimplifyFixedPointCard : Claim7 := { stood := { row := fnParsedIdentIsSimplifyFixedPointRow, standIns := [], harness := (true, "d14e84895abd5ffa00984e7fa7a250e87fe0e945cc91864a2b241086c3cad713"), looks := true }, kinds := [], alts := [], laidByText := true, laidKinds := [.data, .data, .widerDeep, .widerDeep, .data, .data, .data, .data, .data, .data, .sentinel, .sentinel, .data, .data, .pinned, .pinned, .pinned, .pinned], laidTests := true, laidLooks := .later }
def FnParsedIdentIsSimplifyFixedPointCardSaid : Prop := Claim7.holds Tryz.pinned (.plain (OpenSpec.ofChange fnParsedIdentIsSimplifyFixedPointSpec)) fnParsedIdentIsSimplifyFixedPointCard

/-- THE TIED CARD OF 'n011_172.FnParseCalcMatchesSumOfProducts'. -/
def fnParseCalcMatchesSumOfProductsCard : Claim7 := { stood := { row := fnParseCalcMatchesSumOfProductsRow, standIns := [], harness := (true, "d14e84895abd5ffa00984e7fa7a250e87fe0e945cc91864a2b241086c3cad713"), looks := true }, kinds := [], alts := [], laidByText := true, laidKinds := [.data, .data, .widerDeep, .widerDeep, .data, .data, .data, .data, .data, .data, .sentinel, .sentinel, .data, .data, .pinned, .pinned, .pinned, .pinned], laidTests := true, laidLooks := .later }
def FnParseCalcMatchesSumOfProductsCardSaid : Prop := Claim7.holds Tryz.pinned (.plain (OpenSpec.ofChange fnParseCalcMatchesSumOfProductsSpec)) fnParseCalcMatchesSumOfProductsCard

/-- THE SECOND FORM's CARD OF 'n011_172.FnParsedNumberIsSimplifyFixedPoint'. -/
def fnParsedNumberIsSimplifyFixedPointUptoCard : Claim7 := { stood := { row := fnParsedNumberIsSimplifyFixedPointUptoRow, standIns := [], harness := (true, "d14e84895abd5ffa00984e7fa7a250e87fe0e945cc91864a2b241086c3cad713"), looks := true }, kinds := [], alts := [], laidByText := true, laidKinds := [.data, .data, .widerDeep, .widerDeep, .data, .data, .data, .data, .data, .data, .sentinel, .sentinel, .data, .data, .pinned, .pinned, .pinned, .pinned], laidTests := true, laidLooks := .later }
def FnParsedNumberIsSimplifyFixedPointUptoCardSaid : Prop := Claim7.holds Tryz.pinned (.plain (OpenSpec.upto fnParsedNumberIsSimplifyFixedPointSpec)) fnParsedNumberIsSimplifyFixedPointUptoCard

/-- THE SECOND FORM's CARD OF 'n011_172.FnParseCalcParenIsTransparent'. -/
def fnParseCalcParenIsTransparentUptoCard : Claim7 := { stood := { row := fnParseCalcParenIsTransparentUptoRow, standIns := [], harness := (true, "d14e84895abd5ffa00984e7fa7a250e87fe0e945cc91864a2b241086c3cad713"), looks := true }, kinds := [], alts := [], laidByText := true, laidKinds := [.data, .data, .widerDeep, .widerDeep, .data, .data, .data, .data, .data, .data, .sentinel, .sentinel, .data, .data, .pinned, .pinned, .pinned, .pinned], laidTests := true, laidLooks := .later }
def FnParseCalcParenIsTransparentUptoCardSaid : Prop := Claim7.holds Tryz.pinned (.plain (OpenSpec.upto fnParseCalcParenIsTransparentSpec)) fnParseCalcParenIsTransparentUptoCard

/-- THE SECOND FORM's CARD OF 'n011_172.FnParseCalcRefusesEvenLengthOrVar'. -/
def fnParseCalcRefusesEvenLengthOrVarUptoCard : Claim7 := { stood := { row := fnParseCalcRefusesEvenLengthOrVarUptoRow, standIns := [], harness := (true, "d14e84895abd5ffa00984e7fa7a250e87fe0e945cc91864a2b241086c3cad713"), looks := true }, kinds := [], alts := [], laidByText := true, laidKinds := [.data, .data, .widerDeep, .widerDeep, .data, .data, .data, .data, .data, .data, .sentinel, .sentinel, .data, .data, .pinned, .pinned, .pinned, .pinned], laidTests := true, laidLooks := .later }
def FnParseCalcRefusesEvenLengthOrVarUptoCardSaid : Prop := Claim7.holds Tryz.pinned (.plain (OpenSpec.upto fnParseCalcRefusesEvenLengthOrVarSpec)) fnParseCalcRefusesEvenLengthOrVarUptoCard

/-- THE SECOND FORM's CARD OF 'n011_172.FnParsedIdentIsSimplifyFixedPoint'. -/
def fnParsedIdentIsSimplifyFixedPointUptoCard : Claim7 := { stood := { row := fnParsedIdentIsSimplifyFixedPointUptoRow, standIns := [], harness := (true, "d14e84895abd5ffa00984e7fa7a250e87fe0e945cc91864a2b241086c3cad713"), looks := true }, kinds := [], alts := [], laidByText := true, laidKinds := [.data, .data, .widerDeep, .widerDeep, .data, .data, .data, .data, .data, .data, .sentinel, .sentinel, .data, .data, .pinned, .pinned, .pinned, .pinned], laidTests := true, laidLooks := .later }
def FnParsedIdentIsSimplifyFixedPointUptoCardSaid : Prop := Claim7.holds Tryz.pinned (.plain (OpenSpec.upto fnParsedIdentIsSimplifyFixedPointSpec)) fnParsedIdentIsSimplifyFixedPointUptoCard

/-- THE SECOND FORM's CARD OF 'n011_172.FnParseCalcMatchesSumOfProducts'. -/
def fnParseCalcMatchesSumOfProductsUptoCard : Claim7 := { stood := { row := fnParseCalcMatchesSumOfProductsUptoRow, standIns := [], harness := (true, "d14e84895abd5ffa00984e7fa7a250e87fe0e945cc91864a2b241086c3cad713"), looks := true }, kinds := [], alts := [], laidByText := true, laidKinds := [.data, .data, .widerDeep, .widerDeep, .data, .data, .data, .data, .data, .data, .sentinel, .sentinel, .data, .data, .pinned, .pinned, .pinned, .pinned], laidTests := true, laidLooks := .later }
def FnParseCalcMatchesSumOfProductsUptoCardSaid : Prop := Claim7.holds Tryz.pinned (.plain (OpenSpec.upto fnParseCalcMatchesSumOfProductsSpec)) fnParseCalcMatchesSumOfProductsUptoCard
end Rows
end Go.Proofs.YthbfppnegodpoaaGreatDoor
