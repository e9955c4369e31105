/-
  DERIVED. GIVEN WITH THE SEED: THE CARDS: each row of YtiplakadjkimmabGreatFmtRows.lean that lists a variable, with what it lists TIED to the program's text (the seventh form; the later family's looks); each row that meets fmt, with fmt's text TOLD by the authors' own Lean function (tested against real Go, not proved from fmt's source: count such statements apart). THE CARD IS WHAT COUNTS. Prove the row's statement (the work); the ties are given (YtiplakadjkimmabGreatFmtTie.lean); close each card by the builder's one call (the guide's Derived/Test/ToyasCard.lean, 'card_holds'). Laid BY PROGRAM, IN A SANDBOX (cutbox-door.mjs). By AI agents, Wed Nov 11 2026. No macro, syntax, notation, axiom, sorry.
-/
import Derived.Test.YtiplakadjkimmabGreatFmtRows
import GoSem.ClaimSeven
namespace Go.Proofs.YtiplakadjkimmabGreatFmt
namespace Rows

/-- THE TOLD AND TIED CARD OF 'n011_234.FnPrintRuleCharsetQuoted'. -/
def fnPrintRuleCharsetQuotedCard : Claim7 := { stood := { row := fnPrintRuleCharsetQuotedRow, standIns := [], harness := (true, "75da039116696caa556d13925bafd83b6130b15de903f7b4a75291386fa7e78b"), looks := true }, told := true, laidByText := true, laidKinds := [.data, .data, .data, .data, .widerDeep, .pinned, .pinned], laidTests := true, laidLooks := .later, goes := false }
def FnPrintRuleCharsetQuotedToldSaid : Prop := Claim7.holds Tryz.pinned (.plain (OpenSpec.ofChange fnPrintRuleCharsetQuotedSpec)) fnPrintRuleCharsetQuotedCard
/-- ITS FALSE NEIGHBOUR. Refute it at one input. -/
def FnPrintRuleCharsetQuotedToldWrongFalsely : Prop := Claim7.holds Tryz.pinned (.plain (OpenSpec.ofChange fnPrintRuleCharsetQuotedWrong)) fnPrintRuleCharsetQuotedCard

/-- THE TOLD AND TIED CARD OF 'n011_303.FnRuleBlockMinifiedIsPrettyWithoutLayout'. -/
def fnRuleBlockMinifiedIsPrettyWithoutLayoutCard : Claim7 := { stood := { row := fnRuleBlockMinifiedIsPrettyWithoutLayoutRow, standIns := [], harness := (true, "75da039116696caa556d13925bafd83b6130b15de903f7b4a75291386fa7e78b"), looks := true }, told := true, laidByText := true, laidKinds := [.data, .data, .data, .data, .widerDeep, .pinned, .pinned], laidTests := true, laidLooks := .later, goes := false }
def FnRuleBlockMinifiedIsPrettyWithoutLayoutToldSaid : Prop := Claim7.holds Tryz.pinned (.plain (OpenSpec.ofChange fnRuleBlockMinifiedIsPrettyWithoutLayoutSpec)) fnRuleBlockMinifiedIsPrettyWithoutLayoutCard
/-- ITS FALSE NEIGHBOUR. Refute it at one input. -/
def FnRuleBlockMinifiedIsPrettyWithoutLayoutToldWrongFalsely : Prop := Claim7.holds Tryz.pinned (.plain (OpenSpec.ofChange fnRuleBlockMinifiedIsPrettyWithoutLayoutWrong)) fnRuleBlockMinifiedIsPrettyWithoutLayoutCard

/-- THE TOLD AND TIED CARD OF 'n011_234.FnPrintEndOfFileCommentsDeduplicated'. -/
def fnPrintEndOfFileCommentsDeduplicatedCard : Claim7 := { stood := { row := fnPrintEndOfFileCommentsDeduplicatedRow, standIns := [], harness := (true, "75da039116696caa556d13925bafd83b6130b15de903f7b4a75291386fa7e78b"), looks := true }, told := true, laidByText := true, laidKinds := [.data, .data, .data, .data, .widerDeep, .pinned, .pinned], laidTests := true, laidLooks := .later, goes := false }
def FnPrintEndOfFileCommentsDeduplicatedToldSaid : Prop := Claim7.holds Tryz.pinned (.plain (OpenSpec.ofChange fnPrintEndOfFileCommentsDeduplicatedSpec)) fnPrintEndOfFileCommentsDeduplicatedCard
/-- ITS FALSE NEIGHBOUR. Refute it at one input. -/
def FnPrintEndOfFileCommentsDeduplicatedToldWrongFalsely : Prop := Claim7.holds Tryz.pinned (.plain (OpenSpec.ofChange fnPrintEndOfFileCommentsDeduplicatedWrong)) fnPrintEndOfFileCommentsDeduplicatedCard
end Rows
end Go.Proofs.YtiplakadjkimmabGreatFmt
