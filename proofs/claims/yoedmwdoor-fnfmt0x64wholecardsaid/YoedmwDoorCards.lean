/-
  DERIVED. GIVEN WITH THE SEED: THE CARDS: each row of YoedmwDoorRows.lean that lists a variable, with what it lists TIED to the program's text (the seventh form; the later family's looks); each row that meets fmt, with fmt's text TOLD by the authors' own Lean function (tested against real Go, not proved from fmt's source: count such statements apart). THE CARD IS WHAT COUNTS. Prove the row's statement (the work); the ties are given (YoedmwDoorTie.lean); close each card by the builder's one call (the guide's Derived/Test/ToyasCard.lean, 'card_holds'). Laid BY PROGRAM, IN A SANDBOX (cutbox-door.mjs). By AI agents, Wed Nov 11 2026. No macro, syntax, notation, axiom, sorry.
-/
import Derived.Test.YoedmwDoorRows
import GoSem.ClaimSeven
namespace Go.Proofs.YoedmwDoor
namespace Rows

/-- THE TIED CARD OF 'zzlaws_root_b3.FnFmt0x64Whole'. -/
def fnFmt0x64WholeCard : Claim7 := { stood := { row := fnFmt0x64WholeRow, standIns := [], harness := (true, "dd79e352b64981fdc844139093d6470b9a065ed28ac5c1fdd37034db6a5fa294"), looks := false }, kinds := [], alts := [], laidByText := true, laidKinds := [.called, .data], laidTests := true, laidLooks := .later }
def FnFmt0x64WholeCardSaid : Prop := Claim7.holds Edmg.pinned (.plain (OpenSpec.ofChange fnFmt0x64WholeSpec)) fnFmt0x64WholeCard

/-- THE TIED CARD OF 'zzlaws_root_b3.FnFmt0x64RoundTrip'. -/
def fnFmt0x64RoundTripCard : Claim7 := { stood := { row := fnFmt0x64RoundTripRow, standIns := [], harness := (true, "dd79e352b64981fdc844139093d6470b9a065ed28ac5c1fdd37034db6a5fa294"), looks := false }, kinds := [], alts := [], laidByText := true, laidKinds := [.called, .data], laidTests := true, laidLooks := .later }
def FnFmt0x64RoundTripCardSaid : Prop := Claim7.holds Edmg.pinned (.plain (OpenSpec.ofChange fnFmt0x64RoundTripSpec)) fnFmt0x64RoundTripCard
end Rows
end Go.Proofs.YoedmwDoor
