/-
  DERIVED. GIVEN WITH THE SEED: THE CARDS: each row of Qxb6616118aDoorRows.lean that lists a variable, with what it lists TIED to the program's text (the seventh form; the later family's looks); each row that meets fmt, with fmt's text TOLD by the authors' own Lean function (tested against real Go, not proved from fmt's source: count such statements apart). THE CARD IS WHAT COUNTS. Prove the row's statement (the work); the ties are given (Qxb6616118aDoorTie.lean); close each card by the builder's one call (the guide's Derived/Test/ToyasCard.lean, 'card_holds'). Laid BY PROGRAM, IN A SANDBOX (cutbox-door.mjs). By AI agents, Wed Nov 11 2026. No macro, syntax, notation, axiom, sorry.
-/
import Derived.Test.Qxb6616118aDoorRows
import GoSem.ClaimSeven
namespace Go.Proofs.Qxb6616118aDoor
namespace Rows

/-- THE TIED CARD OF 'zzlaws_internal_session_b1.FnWithoutDropsExactlyTheNamedCookies'. -/
def fnWithoutDropsExactlyTheNamedCookiesCard : Claim7 := { stood := { row := fnWithoutDropsExactlyTheNamedCookiesRow, standIns := [], harness := (true, "dcf4beec02fa541dad8f7b1752de9b8c1e53689514d2380f4597e29478d6ebd6"), looks := false }, kinds := [], alts := [], laidByText := true, laidKinds := [.data, .listed, .data, .pinned], laidTests := true, laidLooks := .later }
def FnWithoutDropsExactlyTheNamedCookiesCardSaid : Prop := Claim7.holds Tryd.pinned (.plain (OpenSpec.ofChange fnWithoutDropsExactlyTheNamedCookiesSpec)) fnWithoutDropsExactlyTheNamedCookiesCard

/-- THE TIED CARD OF 'zzlaws_internal_session_b1.FnWithoutTwoNamesCommuteAndSettle'. -/
def fnWithoutTwoNamesCommuteAndSettleCard : Claim7 := { stood := { row := fnWithoutTwoNamesCommuteAndSettleRow, standIns := [], harness := (true, "dcf4beec02fa541dad8f7b1752de9b8c1e53689514d2380f4597e29478d6ebd6"), looks := false }, kinds := [], alts := [], laidByText := true, laidKinds := [.data, .listed, .data, .pinned], laidTests := true, laidLooks := .later }
def FnWithoutTwoNamesCommuteAndSettleCardSaid : Prop := Claim7.holds Tryd.pinned (.plain (OpenSpec.ofChange fnWithoutTwoNamesCommuteAndSettleSpec)) fnWithoutTwoNamesCommuteAndSettleCard
end Rows
end Go.Proofs.Qxb6616118aDoor
