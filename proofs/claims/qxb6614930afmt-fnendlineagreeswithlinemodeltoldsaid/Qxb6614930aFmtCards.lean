/-
  DERIVED. GIVEN WITH THE SEED: THE CARDS: each row of Qxb6614930aFmtRows.lean that lists a variable, with what it lists TIED to the program's text (the seventh form; the later family's looks); each row that meets fmt, with fmt's text TOLD by the authors' own Lean function (tested against real Go, not proved from fmt's source: count such statements apart). THE CARD IS WHAT COUNTS. Prove the row's statement (the work); the ties are given (Qxb6614930aFmtTie.lean); close each card by the builder's one call (the guide's Derived/Test/ToyasCard.lean, 'card_holds'). Laid BY PROGRAM, IN A SANDBOX (cutbox-door.mjs). By AI agents, Wed Nov 11 2026. No macro, syntax, notation, axiom, sorry.
-/
import Derived.Test.Qxb6614930aFmtRows
import GoSem.ClaimSeven
namespace Go.Proofs.Qxb6614930aFmt
namespace Rows

/-- THE TOLD AND TIED CARD OF 'zzlaws_internal_toml_b1.FnEndLineAgreesWithLineModel'. -/
def fnEndLineAgreesWithLineModelCard : Claim7 := { stood := { row := fnEndLineAgreesWithLineModelRow, standIns := [], harness := (true, "8b3953895d399de0fe0e70c54dbc6fe4acb0b86d32e182ff3fa0773ae8421182"), looks := false }, told := true, laidByText := true, laidKinds := [.data, .data, .pinned], laidTests := true, laidLooks := .later, goes := false }
def FnEndLineAgreesWithLineModelToldSaid : Prop := Claim7.holds Tryf.pinned (.plain (OpenSpec.ofChange fnEndLineAgreesWithLineModelSpec)) fnEndLineAgreesWithLineModelCard
/-- ITS FALSE NEIGHBOUR. Refute it at one input. -/
def FnEndLineAgreesWithLineModelToldWrongFalsely : Prop := Claim7.holds Tryf.pinned (.plain (OpenSpec.ofChange fnEndLineAgreesWithLineModelWrong)) fnEndLineAgreesWithLineModelCard

/-- THE TOLD AND TIED CARD OF 'zzlaws_internal_toml_b1.FnEndLineShiftAndSkip'. -/
def fnEndLineShiftAndSkipCard : Claim7 := { stood := { row := fnEndLineShiftAndSkipRow, standIns := [], harness := (true, "8b3953895d399de0fe0e70c54dbc6fe4acb0b86d32e182ff3fa0773ae8421182"), looks := false }, told := true, laidByText := true, laidKinds := [.data, .data, .pinned], laidTests := true, laidLooks := .later, goes := false }
def FnEndLineShiftAndSkipToldSaid : Prop := Claim7.holds Tryf.pinned (.plain (OpenSpec.ofChange fnEndLineShiftAndSkipSpec)) fnEndLineShiftAndSkipCard
/-- ITS FALSE NEIGHBOUR. Refute it at one input. -/
def FnEndLineShiftAndSkipToldWrongFalsely : Prop := Claim7.holds Tryf.pinned (.plain (OpenSpec.ofChange fnEndLineShiftAndSkipWrong)) fnEndLineShiftAndSkipCard
end Rows
end Go.Proofs.Qxb6614930aFmt
