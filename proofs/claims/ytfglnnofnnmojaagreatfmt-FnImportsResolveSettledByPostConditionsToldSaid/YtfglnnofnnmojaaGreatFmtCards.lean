/-
  DERIVED. GIVEN WITH THE SEED: THE CARDS: each row of YtfglnnofnnmojaaGreatFmtRows.lean that lists a variable, with what it lists TIED to the program's text (the seventh form; the later family's looks); each row that meets fmt, with fmt's text TOLD by the authors' own Lean function (tested against real Go, not proved from fmt's source: count such statements apart). THE CARD IS WHAT COUNTS. Prove the row's statement (the work); the ties are given (YtfglnnofnnmojaaGreatFmtTie.lean); close each card by the builder's one call (the guide's Derived/Test/ToyasCard.lean, 'card_holds'). Laid BY PROGRAM, IN A SANDBOX (cutbox-door.mjs). By AI agents, Wed Nov 11 2026. No macro, syntax, notation, axiom, sorry.
-/
import Derived.Test.YtfglnnofnnmojaaGreatFmtRows
import GoSem.ClaimSeven
namespace Go.Proofs.YtfglnnofnnmojaaGreatFmt
namespace Rows

/-- THE TOLD AND TIED CARD OF 'n011_98.FnImportsResolveSettledByPostConditions'. -/
def fnImportsResolveSettledByPostConditionsCard : Claim7 := { stood := { row := fnImportsResolveSettledByPostConditionsRow, standIns := [], harness := (true, "338d02c08cb6e021ec381e0d0748cd30d3b3a3f2e2a3d90106481d2c7b094067"), looks := false }, told := true, laidByText := true, laidKinds := [.data], laidTests := true, laidLooks := .later, goes := false }
def FnImportsResolveSettledByPostConditionsToldSaid : Prop := Claim7.holds Tryz.pinned (.plain (OpenSpec.ofChange fnImportsResolveSettledByPostConditionsSpec)) fnImportsResolveSettledByPostConditionsCard
/-- ITS FALSE NEIGHBOUR. Refute it at one input. -/
def FnImportsResolveSettledByPostConditionsToldWrongFalsely : Prop := Claim7.holds Tryz.pinned (.plain (OpenSpec.ofChange fnImportsResolveSettledByPostConditionsWrong)) fnImportsResolveSettledByPostConditionsCard
end Rows
end Go.Proofs.YtfglnnofnnmojaaGreatFmt
