/-
  DERIVED. GIVEN WITH THE SEED: THE CARDS: each row of Qxb6615948aDoorRows.lean that lists a variable, with what it lists TIED to the program's text (the seventh form; the later family's looks); each row that meets fmt, with fmt's text TOLD by the authors' own Lean function (tested against real Go, not proved from fmt's source: count such statements apart). THE CARD IS WHAT COUNTS. Prove the row's statement (the work); the ties are given (Qxb6615948aDoorTie.lean); close each card by the builder's one call (the guide's Derived/Test/ToyasCard.lean, 'card_holds'). Laid BY PROGRAM, IN A SANDBOX (cutbox-door.mjs). By AI agents, Wed Nov 11 2026. No macro, syntax, notation, axiom, sorry.
-/
import Derived.Test.Qxb6615948aDoorRows
import GoSem.ClaimSeven
namespace Go.Proofs.Qxb6615948aDoor
namespace Rows

/-- THE TIED CARD OF 'zzlaws_internal_config_b1.FnAllowsLosesJustTheFoldOfANewBlacklistEntry'. -/
def fnAllowsLosesJustTheFoldOfANewBlacklistEntryCard : Claim7 := { stood := { row := fnAllowsLosesJustTheFoldOfANewBlacklistEntryRow, standIns := [], harness := (true, "07c1bf8d73c98064049aa9ee1326b6a5dda9974435adc1e96b37fd5b7f791edd"), looks := false }, kinds := [], alts := [], laidByText := true, laidKinds := [.data, .data, .pinned], laidTests := true, laidLooks := .later }
def FnAllowsLosesJustTheFoldOfANewBlacklistEntryCardSaid : Prop := Claim7.holds Tryd.pinned (.plain (OpenSpec.ofChange fnAllowsLosesJustTheFoldOfANewBlacklistEntrySpec)) fnAllowsLosesJustTheFoldOfANewBlacklistEntryCard

/-- THE TIED CARD OF 'zzlaws_internal_config_b1.FnAllowsWhitelistsByteForByteButBlacklistsInAnyCase'. -/
def fnAllowsWhitelistsByteForByteButBlacklistsInAnyCaseCard : Claim7 := { stood := { row := fnAllowsWhitelistsByteForByteButBlacklistsInAnyCaseRow, standIns := [], harness := (true, "07c1bf8d73c98064049aa9ee1326b6a5dda9974435adc1e96b37fd5b7f791edd"), looks := false }, kinds := [], alts := [], laidByText := true, laidKinds := [.data, .data, .pinned], laidTests := true, laidLooks := .later }
def FnAllowsWhitelistsByteForByteButBlacklistsInAnyCaseCardSaid : Prop := Claim7.holds Tryd.pinned (.plain (OpenSpec.ofChange fnAllowsWhitelistsByteForByteButBlacklistsInAnyCaseSpec)) fnAllowsWhitelistsByteForByteButBlacklistsInAnyCaseCard
end Rows
end Go.Proofs.Qxb6615948aDoor
