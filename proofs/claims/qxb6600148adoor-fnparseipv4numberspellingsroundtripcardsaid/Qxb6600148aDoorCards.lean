/-
  DERIVED. GIVEN WITH THE SEED: THE CARDS: each row of Qxb6600148aDoorRows.lean that lists a variable, with what it lists TIED to the program's text (the seventh form; the later family's looks); each row that meets fmt, with fmt's text TOLD by the authors' own Lean function (tested against real Go, not proved from fmt's source: count such statements apart). THE CARD IS WHAT COUNTS. Prove the row's statement (the work); the ties are given (Qxb6600148aDoorTie.lean); close each card by the builder's one call (the guide's Derived/Test/ToyasCard.lean, 'card_holds'). Laid BY PROGRAM, IN A SANDBOX (cutbox-door.mjs). By AI agents, Wed Nov 11 2026. No macro, syntax, notation, axiom, sorry.
-/
import Derived.Test.Qxb6600148aDoorRows
import GoSem.ClaimSeven
namespace Go.Proofs.Qxb6600148aDoor
namespace Rows

/-- THE TIED CARD OF 'zzlaws_internal_guard_b1.FnParseIPv4NumberSpellingsRoundTrip'. -/
def fnParseIPv4NumberSpellingsRoundTripCard : Claim7 := { stood := { row := fnParseIPv4NumberSpellingsRoundTripRow, standIns := [], harness := (true, "2ebabcc5f1365aaa8b6e5546b0fa16f708add73f58ce7e8cfc5cb6e2dde6c631"), looks := true }, kinds := [], alts := [], laidByText := true, laidKinds := [.data, .data, .data, .sentinel, .sentinel], laidTests := true, laidLooks := .later }
def FnParseIPv4NumberSpellingsRoundTripCardSaid : Prop := Claim7.holds Tryd.pinned (.plain (OpenSpec.ofChange fnParseIPv4NumberSpellingsRoundTripSpec)) fnParseIPv4NumberSpellingsRoundTripCard

/-- THE TIED CARD OF 'zzlaws_internal_guard_b1.FnParseIPv4NumberCaseBlind'. -/
def fnParseIPv4NumberCaseBlindCard : Claim7 := { stood := { row := fnParseIPv4NumberCaseBlindRow, standIns := [], harness := (true, "2ebabcc5f1365aaa8b6e5546b0fa16f708add73f58ce7e8cfc5cb6e2dde6c631"), looks := true }, kinds := [], alts := [], laidByText := true, laidKinds := [.data, .data, .data, .sentinel, .sentinel], laidTests := true, laidLooks := .later }
def FnParseIPv4NumberCaseBlindCardSaid : Prop := Claim7.holds Tryd.pinned (.plain (OpenSpec.ofChange fnParseIPv4NumberCaseBlindSpec)) fnParseIPv4NumberCaseBlindCard
end Rows
end Go.Proofs.Qxb6600148aDoor
