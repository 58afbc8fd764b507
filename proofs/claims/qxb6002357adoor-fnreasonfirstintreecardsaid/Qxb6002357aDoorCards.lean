/-
  DERIVED. GIVEN WITH THE SEED: THE CARDS: each row of Qxb6002357aDoorRows.lean that lists a variable, with what it lists TIED to the program's text (the seventh form; the later family's looks); each row that meets fmt, with fmt's text TOLD by the authors' own Lean function (tested against real Go, not proved from fmt's source: count such statements apart). THE CARD IS WHAT COUNTS. Prove the row's statement (the work); the ties are given (Qxb6002357aDoorTie.lean); close each card by the builder's one call (the guide's Derived/Test/ToyasCard.lean, 'card_holds'). Laid BY PROGRAM, IN A SANDBOX (cutbox-door.mjs). By AI agents, Wed Nov 11 2026. No macro, syntax, notation, axiom, sorry.
-/
import Derived.Test.Qxb6002357aDoorRows
import GoSem.ClaimSeven
namespace Go.Proofs.Qxb6002357aDoor
namespace Rows

/-- THE TIED CARD OF 'zzlaws_root_g1.FnReasonFoundThroughAnyChain'. -/
def fnReasonFoundThroughAnyChainCard : Claim7 := { stood := { row := fnReasonFoundThroughAnyChainRow, standIns := [], harness := (true, "fc79705627bd966e69c25112b31f368def67a6c3d13becf4757e1f0b10adf977"), looks := true }, kinds := [], alts := [], laidByText := true, laidKinds := [.handle], laidTests := true, laidLooks := .later }
def FnReasonFoundThroughAnyChainCardSaid : Prop := Claim7.holds Tryd.pinned (.plain (OpenSpec.ofChange fnReasonFoundThroughAnyChainSpec)) fnReasonFoundThroughAnyChainCard

/-- THE TIED CARD OF 'zzlaws_root_g1.FnReasonFirstInTree'. -/
def fnReasonFirstInTreeCard : Claim7 := { stood := { row := fnReasonFirstInTreeRow, standIns := [], harness := (true, "fc79705627bd966e69c25112b31f368def67a6c3d13becf4757e1f0b10adf977"), looks := true }, kinds := [], alts := [], laidByText := true, laidKinds := [.handle], laidTests := true, laidLooks := .later }
def FnReasonFirstInTreeCardSaid : Prop := Claim7.holds Tryd.pinned (.plain (OpenSpec.ofChange fnReasonFirstInTreeSpec)) fnReasonFirstInTreeCard
end Rows
end Go.Proofs.Qxb6002357aDoor
