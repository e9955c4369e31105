/-
  DERIVED. GIVEN WITH THE SEED: THE CARDS: each row of YtoeahdefgblmoaaGreatDoorRows.lean that lists a variable, with what it lists TIED to the program's text (the seventh form; the later family's looks); each row that meets fmt, with fmt's text TOLD by the authors' own Lean function (tested against real Go, not proved from fmt's source: count such statements apart). THE CARD IS WHAT COUNTS. Prove the row's statement (the work); the ties are given (YtoeahdefgblmoaaGreatDoorTie.lean); close each card by the builder's one call (the guide's Derived/Test/ToyasCard.lean, 'card_holds'). Laid BY PROGRAM, IN A SANDBOX (cutbox-door.mjs). By AI agents, Wed Nov 11 2026. No macro, syntax, notation, axiom, sorry.
-/
import Derived.Test.YtoeahdefgblmoaaGreatDoorRows
import GoSem.ClaimSeven
namespace Go.Proofs.YtoeahdefgblmoaaGreatDoor
namespace Rows

/-- THE TIED CARD OF 'n011_200.FnIsFontSizeDecidesWhetherMangleFontRewrites'. -/
def fnIsFontSizeDecidesWhetherMangleFontRewritesCard : Claim7 := { stood := { row := fnIsFontSizeDecidesWhetherMangleFontRewritesRow, standIns := [], harness := (true, "7cef69c688616a13e16f255e3e186e0b8832a6f112c8e67bf1b39d3373934064"), looks := true }, kinds := [], alts := [], laidByText := true, laidKinds := [.data, .data, .widerDeep, .widerDeep, .data, .data, .data, .data, .data, .data, .sentinel, .sentinel, .mapped, .mapped, .mappedDeep, .pinned, .pinned, .pinned, .pinned], laidTests := true, laidLooks := .later }
def FnIsFontSizeDecidesWhetherMangleFontRewritesCardSaid : Prop := Claim7.holds Tryz.pinned (.plain (OpenSpec.ofChange fnIsFontSizeDecidesWhetherMangleFontRewritesSpec)) fnIsFontSizeDecidesWhetherMangleFontRewritesCard

/-- THE TIED CARD OF 'n011_200.FnMangleFontAcceptsWellFormedShorthand'. -/
def fnMangleFontAcceptsWellFormedShorthandCard : Claim7 := { stood := { row := fnMangleFontAcceptsWellFormedShorthandRow, standIns := [], harness := (true, "7cef69c688616a13e16f255e3e186e0b8832a6f112c8e67bf1b39d3373934064"), looks := true }, kinds := [], alts := [], laidByText := true, laidKinds := [.data, .data, .widerDeep, .widerDeep, .data, .data, .data, .data, .data, .data, .sentinel, .sentinel, .mapped, .mapped, .mappedDeep, .pinned, .pinned, .pinned, .pinned], laidTests := true, laidLooks := .later }
def FnMangleFontAcceptsWellFormedShorthandCardSaid : Prop := Claim7.holds Tryz.pinned (.plain (OpenSpec.ofChange fnMangleFontAcceptsWellFormedShorthandSpec)) fnMangleFontAcceptsWellFormedShorthandCard

/-- THE SECOND FORM's CARD OF 'n011_200.FnIsFontSizeDecidesWhetherMangleFontRewrites'. -/
def fnIsFontSizeDecidesWhetherMangleFontRewritesUptoCard : Claim7 := { stood := { row := fnIsFontSizeDecidesWhetherMangleFontRewritesUptoRow, standIns := [], harness := (true, "7cef69c688616a13e16f255e3e186e0b8832a6f112c8e67bf1b39d3373934064"), looks := true }, kinds := [], alts := [], laidByText := true, laidKinds := [.data, .data, .widerDeep, .widerDeep, .data, .data, .data, .data, .data, .data, .sentinel, .sentinel, .mapped, .mapped, .mappedDeep, .pinned, .pinned, .pinned, .pinned], laidTests := true, laidLooks := .later }
def FnIsFontSizeDecidesWhetherMangleFontRewritesUptoCardSaid : Prop := Claim7.holds Tryz.pinned (.plain (OpenSpec.upto fnIsFontSizeDecidesWhetherMangleFontRewritesSpec)) fnIsFontSizeDecidesWhetherMangleFontRewritesUptoCard

/-- THE SECOND FORM's CARD OF 'n011_200.FnMangleFontAcceptsWellFormedShorthand'. -/
def fnMangleFontAcceptsWellFormedShorthandUptoCard : Claim7 := { stood := { row := fnMangleFontAcceptsWellFormedShorthandUptoRow, standIns := [], harness := (true, "7cef69c688616a13e16f255e3e186e0b8832a6f112c8e67bf1b39d3373934064"), looks := true }, kinds := [], alts := [], laidByText := true, laidKinds := [.data, .data, .widerDeep, .widerDeep, .data, .data, .data, .data, .data, .data, .sentinel, .sentinel, .mapped, .mapped, .mappedDeep, .pinned, .pinned, .pinned, .pinned], laidTests := true, laidLooks := .later }
def FnMangleFontAcceptsWellFormedShorthandUptoCardSaid : Prop := Claim7.holds Tryz.pinned (.plain (OpenSpec.upto fnMangleFontAcceptsWellFormedShorthandSpec)) fnMangleFontAcceptsWellFormedShorthandUptoCard
end Rows
end Go.Proofs.YtoeahdefgblmoaaGreatDoor
