/-
  No cell of these rows narrows 'for every input' (looked for: loops, veiled, ifaces, maps, wideKeys, modest, calm, conditions, laid).
  DERIVED. THE GIVEN ROWS OF THIS SEAT. 3 by the template 'for every input the law returns true; each argument reads behind the call as it read before'; 0 by the template 'total and deterministic' (their statements: Qxb6001802aTotals.lean).
  GIVEN WITH THE SEED: the statements are not yours to turn. If you find one false, say at which input.
  Laid BY PROGRAM, IN A SANDBOX (cutbox-rows.mjs): the forced cells as the released guide's own fill.sh prints them over the translation d4e013df732e1d8d… (all of the seat's roots in one cut). By AI agents, Wed Nov 11 2026. No macro, syntax, notation, axiom, sorry.
-/
import Derived.Test.Qxb6001802aChecked
import GoSem.Claim
import GoSem.ClaimJoined
import GoSem.ClaimMapViews
import Derived.JoinedTies
import Derived.KernelRfl
namespace Go.Proofs.Qxb6001802a
/- THE CELL 'sum', in the pinned program and in every row, IS THE sha256 OF THE DUMP (.gsa) THAT Qxb6001802aProg.lean LOADS. Nothing in Lean hashes anything: it is a label: what it is worth is what the hold of that sum in a sandbox is worth. -/
noncomputable def Try.pinned : Pinned := { name := "qxb6001802a", sum := "d4e013df732e1d8de1d9d9d6277c59f8ccd63438cdddb34347579a7ff1dd1f60", checked := Try.checked }
namespace Rows
def none {H : Type} : Left H := { results := [], args := [] }

/-- 'zzlaws_root_b1.FnLookupOfIsTemplate': WHATEVER THE INPUT: true; the input reads as it did. -/
def fnLookupOfIsTemplateSpec : ChangeSpec := { name := "fnLookupOfIsTemplate", fn := fun _ => fun
  | [d1, d2, d3] => { results := [.lit (.bool true)], args := [d1, d2, d3] }
  | _ => none }
def fnLookupOfIsTemplateRow : OpenClaim := { program := "qxb6001802a", sum := "d4e013df732e1d8de1d9d9d6277c59f8ccd63438cdddb34347579a7ff1dd1f60", func := "example.com/onceguard/onceguard/zzlaws_root_b1.FnLookupOfIsTemplate", spec := "fnLookupOfIsTemplate", apart := false }
def FnLookupOfIsTemplateSaid : Prop := fnLookupOfIsTemplateRow.holds Try.pinned (OpenSpec.ofChange fnLookupOfIsTemplateSpec)

/-- ITS FALSE NEIGHBOUR: 'it returns false'. Refute it at one input. -/
def fnLookupOfIsTemplateWrong : ChangeSpec := { name := "fnLookupOfIsTemplate", fn := fun _ => fun
  | [d1, d2, d3] => { results := [.lit (.bool false)], args := [d1, d2, d3] }
  | _ => none }
def FnLookupOfIsTemplateWrongFalsely : Prop := fnLookupOfIsTemplateRow.holds Try.pinned (OpenSpec.ofChange fnLookupOfIsTemplateWrong)

/-- 'zzlaws_root_b1.FnLookupOfNumbersItsParameters': WHATEVER THE INPUT: true; the input reads as it did. -/
def fnLookupOfNumbersItsParametersSpec : ChangeSpec := { name := "fnLookupOfNumbersItsParameters", fn := fun _ => fun
  | [d1, d2, d3] => { results := [.lit (.bool true)], args := [d1, d2, d3] }
  | _ => none }
def fnLookupOfNumbersItsParametersRow : OpenClaim := { program := "qxb6001802a", sum := "d4e013df732e1d8de1d9d9d6277c59f8ccd63438cdddb34347579a7ff1dd1f60", func := "example.com/onceguard/onceguard/zzlaws_root_b1.FnLookupOfNumbersItsParameters", spec := "fnLookupOfNumbersItsParameters", apart := false }
def FnLookupOfNumbersItsParametersSaid : Prop := fnLookupOfNumbersItsParametersRow.holds Try.pinned (OpenSpec.ofChange fnLookupOfNumbersItsParametersSpec)

/-- ITS FALSE NEIGHBOUR: 'it returns false'. Refute it at one input. -/
def fnLookupOfNumbersItsParametersWrong : ChangeSpec := { name := "fnLookupOfNumbersItsParameters", fn := fun _ => fun
  | [d1, d2, d3] => { results := [.lit (.bool false)], args := [d1, d2, d3] }
  | _ => none }
def FnLookupOfNumbersItsParametersWrongFalsely : Prop := fnLookupOfNumbersItsParametersRow.holds Try.pinned (OpenSpec.ofChange fnLookupOfNumbersItsParametersWrong)

/-- 'zzlaws_root_b1.FnLookupOfEndsWithOfKey': WHATEVER THE INPUT: true; the input reads as it did. -/
def fnLookupOfEndsWithOfKeySpec : ChangeSpec := { name := "fnLookupOfEndsWithOfKey", fn := fun _ => fun
  | [d1, d2, d3] => { results := [.lit (.bool true)], args := [d1, d2, d3] }
  | _ => none }
def fnLookupOfEndsWithOfKeyRow : OpenClaim := { program := "qxb6001802a", sum := "d4e013df732e1d8de1d9d9d6277c59f8ccd63438cdddb34347579a7ff1dd1f60", func := "example.com/onceguard/onceguard/zzlaws_root_b1.FnLookupOfEndsWithOfKey", spec := "fnLookupOfEndsWithOfKey", apart := false }
def FnLookupOfEndsWithOfKeySaid : Prop := fnLookupOfEndsWithOfKeyRow.holds Try.pinned (OpenSpec.ofChange fnLookupOfEndsWithOfKeySpec)

/-- ITS FALSE NEIGHBOUR: 'it returns false'. Refute it at one input. -/
def fnLookupOfEndsWithOfKeyWrong : ChangeSpec := { name := "fnLookupOfEndsWithOfKey", fn := fun _ => fun
  | [d1, d2, d3] => { results := [.lit (.bool false)], args := [d1, d2, d3] }
  | _ => none }
def FnLookupOfEndsWithOfKeyWrongFalsely : Prop := fnLookupOfEndsWithOfKeyRow.holds Try.pinned (OpenSpec.ofChange fnLookupOfEndsWithOfKeyWrong)

end Rows
end Go.Proofs.Qxb6001802a
