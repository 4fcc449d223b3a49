/-
  NARROWER THAN 'FOR EVERY INPUT', by the rows' own cells (each row's printed sentence says how): FnTypeStringOfPacketType: laid · FnTypeStringRoundTrip: laid.
  DERIVED. THE GIVEN ROWS OF THIS SEAT. 2 by the template 'for every input the law returns true; each argument reads behind the call as it read before'; 0 by the template 'total and deterministic' (their statements: Qxb6616037aDoorTotals.lean).
  GIVEN WITH THE SEED: the statements are not yours to turn. If you find one false, say at which input.
  Laid BY PROGRAM, IN A SANDBOX (cutbox-rows.mjs): the forced cells as the released guide's own fill.sh prints them over the translation e10f7a2552c46586… (all of the seat's roots in one cut). By AI agents, Wed Nov 11 2026. No macro, syntax, notation, axiom, sorry.
-/
import Derived.Test.Qxb6616037aDoorChecked
import GoSem.PinnedTables
import GoSem.Claim
import GoSem.ClaimJoined
import GoSem.ClaimMapViews
import Derived.JoinedTies
import Derived.KernelRfl
namespace Go.Proofs.Qxb6616037aDoor
/- THE CELL 'sum', in the pinned program and in every row, IS THE sha256 OF THE DUMP (.gsa) THAT Qxb6616037aDoorProg.lean LOADS. Nothing in Lean hashes anything: it is a label: what it is worth is what the hold of that sum in a sandbox is worth. -/
noncomputable def Tryd.pinned : Pinned := { name := "qxb6616037adoor", sum := "e10f7a2552c4658627e9dd0311957f7a6a01e2cfdd35704fbb54f2f64412aac0", checked := Tryd.checked }
namespace Rows
def none {H : Type} : Left H := { results := [], args := [] }

/- WHAT THE LISTED PACKAGE-LEVEL VARIABLES READ AS WHEN THE CALL BEGINS. Each datum BY PROGRAM (the guide's laid-datum.mjs) off the statement by which the dump's own 'gosem.cut.vars' lays the variable. In a bare row this is a premise. The card (Qxb6616037aDoorCards.lean) ties it to the program's text. -/
def laid_unicode_utf8_acceptRanges {H : Type} : DataW H := .agg [.agg [.lit (.int .u8 128), .lit (.int .u8 191)], .agg [.lit (.int .u8 160), .lit (.int .u8 191)], .agg [.lit (.int .u8 128), .lit (.int .u8 159)], .agg [.lit (.int .u8 144), .lit (.int .u8 191)], .agg [.lit (.int .u8 128), .lit (.int .u8 143)], .agg [.lit (.int .u8 0), .lit (.int .u8 0)], .agg [.lit (.int .u8 0), .lit (.int .u8 0)], .agg [.lit (.int .u8 0), .lit (.int .u8 0)], .agg [.lit (.int .u8 0), .lit (.int .u8 0)], .agg [.lit (.int .u8 0), .lit (.int .u8 0)], .agg [.lit (.int .u8 0), .lit (.int .u8 0)], .agg [.lit (.int .u8 0), .lit (.int .u8 0)], .agg [.lit (.int .u8 0), .lit (.int .u8 0)], .agg [.lit (.int .u8 0), .lit (.int .u8 0)], .agg [.lit (.int .u8 0), .lit (.int .u8 0)], .agg [.lit (.int .u8 0), .lit (.int .u8 0)]]
/-- One of Go's own tables, pinned by name: the form's constant. -/
def laid_unicode_utf8_first : DataW Unit := Go.Pinned.utf8First

/-- 'zzlaws_internal_par2_b1.FnTypeStringOfPacketType': WHATEVER THE INPUT: true; the input reads as it did. -/
def fnTypeStringOfPacketTypeSpec : ChangeSpec := { name := "fnTypeStringOfPacketType", fn := fun _ => fun
  | [d] => { results := [.lit (.bool true)], args := [d] }
  | _ => none }
def fnTypeStringOfPacketTypeRow : OpenClaim := { program := "qxb6616037adoor", sum := "e10f7a2552c4658627e9dd0311957f7a6a01e2cfdd35704fbb54f2f64412aac0", func := "example.com/keelson/keelson/zzlaws_internal_par2_b1.FnTypeStringOfPacketType", spec := "fnTypeStringOfPacketType", inPlace := ["internal/bytealg.IndexByteString", "internal/bytealg.IndexString"], named := ["unicode/utf8.first", "unicode/utf8.acceptRanges", "internal/bytealg.MaxLen"], apart := false, laid := [("unicode/utf8.acceptRanges", laid_unicode_utf8_acceptRanges), ("unicode/utf8.first", laid_unicode_utf8_first)] }
def FnTypeStringOfPacketTypeSaid : Prop := fnTypeStringOfPacketTypeRow.holds Tryd.pinned (OpenSpec.ofChange fnTypeStringOfPacketTypeSpec)

/-- ITS FALSE NEIGHBOUR: 'it returns false'. Refute it at one input. -/
def fnTypeStringOfPacketTypeWrong : ChangeSpec := { name := "fnTypeStringOfPacketType", fn := fun _ => fun
  | [d] => { results := [.lit (.bool false)], args := [d] }
  | _ => none }
def FnTypeStringOfPacketTypeWrongFalsely : Prop := fnTypeStringOfPacketTypeRow.holds Tryd.pinned (OpenSpec.ofChange fnTypeStringOfPacketTypeWrong)

/-- 'zzlaws_internal_par2_b1.FnTypeStringRoundTrip': WHATEVER THE INPUT: true; the input reads as it did. -/
def fnTypeStringRoundTripSpec : ChangeSpec := { name := "fnTypeStringRoundTrip", fn := fun _ => fun
  | [d] => { results := [.lit (.bool true)], args := [d] }
  | _ => none }
def fnTypeStringRoundTripRow : OpenClaim := { program := "qxb6616037adoor", sum := "e10f7a2552c4658627e9dd0311957f7a6a01e2cfdd35704fbb54f2f64412aac0", func := "example.com/keelson/keelson/zzlaws_internal_par2_b1.FnTypeStringRoundTrip", spec := "fnTypeStringRoundTrip", inPlace := ["internal/bytealg.IndexByteString", "internal/bytealg.IndexString"], named := ["unicode/utf8.first", "unicode/utf8.acceptRanges", "internal/bytealg.MaxLen"], apart := false, laid := [("unicode/utf8.acceptRanges", laid_unicode_utf8_acceptRanges), ("unicode/utf8.first", laid_unicode_utf8_first)] }
def FnTypeStringRoundTripSaid : Prop := fnTypeStringRoundTripRow.holds Tryd.pinned (OpenSpec.ofChange fnTypeStringRoundTripSpec)

/-- ITS FALSE NEIGHBOUR: 'it returns false'. Refute it at one input. -/
def fnTypeStringRoundTripWrong : ChangeSpec := { name := "fnTypeStringRoundTrip", fn := fun _ => fun
  | [d] => { results := [.lit (.bool false)], args := [d] }
  | _ => none }
def FnTypeStringRoundTripWrongFalsely : Prop := fnTypeStringRoundTripRow.holds Tryd.pinned (OpenSpec.ofChange fnTypeStringRoundTripWrong)

end Rows
end Go.Proofs.Qxb6616037aDoor
