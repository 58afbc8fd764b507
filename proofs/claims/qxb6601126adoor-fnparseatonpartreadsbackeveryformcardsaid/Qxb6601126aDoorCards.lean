/-
  DERIVED. GIVEN WITH THE SEED: THE CARDS: each row of Qxb6601126aDoorRows.lean that lists a variable, with what it lists TIED to the program's text (the seventh form; the later family's looks); each row that meets fmt, with fmt's text TOLD by the authors' own Lean function (tested against real Go, not proved from fmt's source: count such statements apart). THE CARD IS WHAT COUNTS. Prove the row's statement (the work); the ties are given (Qxb6601126aDoorTie.lean); close each card by the builder's one call (the guide's Derived/Test/ToyasCard.lean, 'card_holds'). Laid BY PROGRAM, IN A SANDBOX (cutbox-door.mjs). By AI agents, Wed Nov 11 2026. No macro, syntax, notation, axiom, sorry.
-/
import Derived.Test.Qxb6601126aDoorRows
import GoSem.ClaimSeven
namespace Go.Proofs.Qxb6601126aDoor
namespace Rows

/-- THE TIED CARD OF 'zzlaws_netguard_b1.FnParseAtonPartReadsBackEveryForm'. -/
def fnParseAtonPartReadsBackEveryFormCard : Claim7 := { stood := { row := fnParseAtonPartReadsBackEveryFormRow, standIns := [], harness := (true, "ca1fa853525e02fc6b7dac176a9bc3567023bbb1423c80206cf79b16ce1c1600"), looks := true }, kinds := [], alts := [], laidByText := true, laidKinds := [.data, .data, .data, .sentinel, .sentinel], laidTests := true, laidLooks := .later }
def FnParseAtonPartReadsBackEveryFormCardSaid : Prop := Claim7.holds Tryd.pinned (.plain (OpenSpec.ofChange fnParseAtonPartReadsBackEveryFormSpec)) fnParseAtonPartReadsBackEveryFormCard

/-- THE TIED CARD OF 'zzlaws_netguard_b1.FnParseAtonPartIgnoresAsciiCase'. -/
def fnParseAtonPartIgnoresAsciiCaseCard : Claim7 := { stood := { row := fnParseAtonPartIgnoresAsciiCaseRow, standIns := [], harness := (true, "ca1fa853525e02fc6b7dac176a9bc3567023bbb1423c80206cf79b16ce1c1600"), looks := true }, kinds := [], alts := [], laidByText := true, laidKinds := [.data, .data, .data, .sentinel, .sentinel], laidTests := true, laidLooks := .later }
def FnParseAtonPartIgnoresAsciiCaseCardSaid : Prop := Claim7.holds Tryd.pinned (.plain (OpenSpec.ofChange fnParseAtonPartIgnoresAsciiCaseSpec)) fnParseAtonPartIgnoresAsciiCaseCard
end Rows
end Go.Proofs.Qxb6601126aDoor
