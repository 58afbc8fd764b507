/-
  NARROWER THAN 'FOR EVERY INPUT', by the rows' own cells (each row's printed sentence says how): FnReasonFoundThroughAnyChain: laid · FnReasonFirstInTree: laid.
  DERIVED. THE GIVEN ROWS OF THIS SEAT. 2 by the template 'for every input the law returns true; each argument reads behind the call as it read before'; 0 by the template 'total and deterministic' (their statements: Qxb6002357aDoorTotals.lean).
  GIVEN WITH THE SEED: the statements are not yours to turn. If you find one false, say at which input.
  Laid BY PROGRAM, IN A SANDBOX (cutbox-rows.mjs): the forced cells as the released guide's own fill.sh prints them over the translation 22a6a2a043185637… (all of the seat's roots in one cut). By AI agents, Wed Nov 11 2026. No macro, syntax, notation, axiom, sorry.
-/
import Derived.Test.Qxb6002357aDoorChecked
import GoSem.Claim
import GoSem.ClaimJoined
import GoSem.ClaimMapViews
import Derived.JoinedTies
import Derived.KernelRfl
namespace Go.Proofs.Qxb6002357aDoor
/- THE CELL 'sum', in the pinned program and in every row, IS THE sha256 OF THE DUMP (.gsa) THAT Qxb6002357aDoorProg.lean LOADS. Nothing in Lean hashes anything: it is a label: what it is worth is what the hold of that sum in a sandbox is worth. -/
noncomputable def Tryd.pinned : Pinned := { name := "qxb6002357adoor", sum := "22a6a2a043185637adc288a3fde0d26a97466635bef06ccb501ae9e8aafcf450", checked := Tryd.checked }
namespace Rows
def none {H : Type} : Left H := { results := [], args := [] }

/- WHAT THE LISTED PACKAGE-LEVEL VARIABLES READ AS WHEN THE CALL BEGINS. Each datum BY PROGRAM (the guide's laid-datum.mjs) off the statement by which the dump's own 'gosem.cut.vars' lays the variable. In a bare row this is a premise. The card (Qxb6002357aDoorCards.lean) ties it to the program's text. -/
def laid_errors_errorType {H : Type} : DataW H := .iface "internal/reflectlite.rtype" (.agg [.ptr (.lit (.string [101, 114, 114, 111, 114]))])

/-- 'zzlaws_root_g1.FnReasonFoundThroughAnyChain': WHATEVER THE INPUT: true; the input reads as it did. -/
def fnReasonFoundThroughAnyChainSpec : ChangeSpec := { name := "fnReasonFoundThroughAnyChain", fn := fun _ => fun
  | [d1, d2, d3] => { results := [.lit (.bool true)], args := [d1, d2, d3] }
  | _ => none }
def fnReasonFoundThroughAnyChainRow : OpenClaim := { program := "qxb6002357adoor", sum := "22a6a2a043185637adc288a3fde0d26a97466635bef06ccb501ae9e8aafcf450", func := "example.com/countersign/countersign/zzlaws_root_g1.FnReasonFoundThroughAnyChain", spec := "fnReasonFoundThroughAnyChain", inPlace := ["internal/reflectlite.ValueOf", "(internal/reflectlite.Value).Type", "(internal/reflectlite.Value).IsNil", "internal/reflectlite.TypeOf", "(internal/reflectlite.Value).Elem", "(internal/reflectlite.Value).Set"], unfollowed := true, recurses := true, named := ["errors.errorType"], apart := false, laid := [("errors.errorType", laid_errors_errorType)] }
def FnReasonFoundThroughAnyChainSaid : Prop := fnReasonFoundThroughAnyChainRow.holds Tryd.pinned (OpenSpec.ofChange fnReasonFoundThroughAnyChainSpec)

/-- ITS FALSE NEIGHBOUR: 'it returns false'. Refute it at one input. -/
def fnReasonFoundThroughAnyChainWrong : ChangeSpec := { name := "fnReasonFoundThroughAnyChain", fn := fun _ => fun
  | [d1, d2, d3] => { results := [.lit (.bool false)], args := [d1, d2, d3] }
  | _ => none }
def FnReasonFoundThroughAnyChainWrongFalsely : Prop := fnReasonFoundThroughAnyChainRow.holds Tryd.pinned (OpenSpec.ofChange fnReasonFoundThroughAnyChainWrong)

/-- 'zzlaws_root_g1.FnReasonFirstInTree': WHATEVER THE INPUT: true; the input reads as it did. -/
def fnReasonFirstInTreeSpec : ChangeSpec := { name := "fnReasonFirstInTree", fn := fun _ => fun
  | [d1, d2] => { results := [.lit (.bool true)], args := [d1, d2] }
  | _ => none }
def fnReasonFirstInTreeRow : OpenClaim := { program := "qxb6002357adoor", sum := "22a6a2a043185637adc288a3fde0d26a97466635bef06ccb501ae9e8aafcf450", func := "example.com/countersign/countersign/zzlaws_root_g1.FnReasonFirstInTree", spec := "fnReasonFirstInTree", inPlace := ["internal/reflectlite.ValueOf", "(internal/reflectlite.Value).Type", "(internal/reflectlite.Value).IsNil", "internal/reflectlite.TypeOf", "(internal/reflectlite.Value).Elem", "(internal/reflectlite.Value).Set"], unfollowed := true, recurses := true, named := ["errors.errorType"], apart := false, laid := [("errors.errorType", laid_errors_errorType)] }
def FnReasonFirstInTreeSaid : Prop := fnReasonFirstInTreeRow.holds Tryd.pinned (OpenSpec.ofChange fnReasonFirstInTreeSpec)

/-- ITS FALSE NEIGHBOUR: 'it returns false'. Refute it at one input. -/
def fnReasonFirstInTreeWrong : ChangeSpec := { name := "fnReasonFirstInTree", fn := fun _ => fun
  | [d1, d2] => { results := [.lit (.bool false)], args := [d1, d2] }
  | _ => none }
def FnReasonFirstInTreeWrongFalsely : Prop := fnReasonFirstInTreeRow.holds Tryd.pinned (OpenSpec.ofChange fnReasonFirstInTreeWrong)

end Rows
end Go.Proofs.Qxb6002357aDoor
