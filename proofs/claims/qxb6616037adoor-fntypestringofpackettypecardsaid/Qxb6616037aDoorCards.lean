/-
  DERIVED. GIVEN WITH THE SEED: THE CARDS: each row of Qxb6616037aDoorRows.lean that lists a variable, with what it lists TIED to the program's text (the seventh form; the later family's looks); each row that meets fmt, with fmt's text TOLD by the authors' own Lean function (tested against real Go, not proved from fmt's source: count such statements apart). THE CARD IS WHAT COUNTS. Prove the row's statement (the work); the ties are given (Qxb6616037aDoorTie.lean); close each card by the builder's one call (the guide's Derived/Test/ToyasCard.lean, 'card_holds'). Laid BY PROGRAM, IN A SANDBOX (cutbox-door.mjs). By AI agents, Wed Nov 11 2026. No macro, syntax, notation, axiom, sorry.
-/
import Derived.Test.Qxb6616037aDoorRows
import GoSem.ClaimSeven
namespace Go.Proofs.Qxb6616037aDoor
namespace Rows

/-- THE TIED CARD OF 'zzlaws_internal_par2_b1.FnTypeStringOfPacketType'. -/
def fnTypeStringOfPacketTypeCard : Claim7 := { stood := { row := fnTypeStringOfPacketTypeRow, standIns := [], harness := (true, "2030cf5d0e7078e8a5bb0ded1ac0fd711407a65231d4c2dba192a44c2ec18b24"), looks := false }, kinds := [], alts := [], laidByText := true, laidKinds := [.data, .pinned], laidTests := true, laidLooks := .later }
def FnTypeStringOfPacketTypeCardSaid : Prop := Claim7.holds Tryd.pinned (.plain (OpenSpec.ofChange fnTypeStringOfPacketTypeSpec)) fnTypeStringOfPacketTypeCard

/-- THE TIED CARD OF 'zzlaws_internal_par2_b1.FnTypeStringRoundTrip'. -/
def fnTypeStringRoundTripCard : Claim7 := { stood := { row := fnTypeStringRoundTripRow, standIns := [], harness := (true, "2030cf5d0e7078e8a5bb0ded1ac0fd711407a65231d4c2dba192a44c2ec18b24"), looks := false }, kinds := [], alts := [], laidByText := true, laidKinds := [.data, .pinned], laidTests := true, laidLooks := .later }
def FnTypeStringRoundTripCardSaid : Prop := Claim7.holds Tryd.pinned (.plain (OpenSpec.ofChange fnTypeStringRoundTripSpec)) fnTypeStringRoundTripCard
end Rows
end Go.Proofs.Qxb6616037aDoor
