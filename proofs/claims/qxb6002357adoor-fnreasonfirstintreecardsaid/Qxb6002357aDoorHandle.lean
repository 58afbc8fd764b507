/-
  WHAT THE LISTED VARIABLE errors.errorType GIVES A WALK: its one cell; the heap that the door's own run leaves meets the condition.
-/
import Derived.Test.Qxb6002357aDoorRows
import Derived.ProofKit
import Derived.LaidMore
import Derived.LaidHandle
import Derived.OpenShut
import Derived.Stop.Joined
namespace Go.Proofs.Qxb6002357aDoor
open Go.ChangeShapes Go.WideShapes Go.RowKit

theorem own : ownKnob Tryd.prog.godebug = none := by kernel_rfl
theorem et : Tryd.prog.globalNamed "errors.errorType" = some 0 := by kernel_rfl
/-- The dynamic type's name in a datum. -/
def dynName : DataW Unit → String
  | .iface n _ => n
  | _ => ""
theorem rt : (Tryd.prog.cutTypes.find? (·.1 == dynName Rows.laid_errors_errorType)).map (·.2) = some 54 := by kernel_rfl
theorem oneRow : ((List.range 97).filter fun t => Tryd.prog.rowNamed t [101, 114, 114, 111, 114]) = [25] := by kernel_rfl
theorem tsize : Tryd.prog.types.size = 97 := by kernel_rfl

/-- The row's list. -/
def listed : List (String × DataW Unit) := [("errors.errorType", Rows.laid_errors_errorType)]

theorem handle_of_laid {W : World} (h : laidMetH Tryd.prog listed W) : W.cell? ⟨0, 0, none⟩ = some (.iface 54 (.agg #[.pointer (some ⟨1, 25, none⟩)])) := by
  have h' : laidMet Tryd.prog [] W ∧ handlesMet Tryd.prog listed W := h
  obtain ⟨name, u, ty, e1, e2, e3, e4, e5⟩ := h'.2 _ (List.mem_singleton.2 rfl)
  have en : name = [101, 114, 114, 111, 114] := (Option.some.inj e1).symm
  subst en
  obtain rfl := Option.some.inj (rt.symm.trans e2)
  have hm : ty ∈ (List.range 97).filter fun t => Tryd.prog.rowNamed t [101, 114, 114, 111, 114] := List.mem_filter.2 ⟨List.mem_range.2 (by rw [← tsize]; exact e3), e4⟩
  rw [oneRow] at hm
  obtain rfl := List.mem_singleton.1 hm
  have hh : typeHandle Tryd.prog 25 = .pointer (some ⟨1, 25, none⟩) := by kernel_rfl
  rw [hh] at e5
  simpa using World.var?_cell et e5 0

theorem door_met (os : Os) (args : Array Value) : laidMetH Tryd.prog listed ((World.doorLaid Tryd.prog 16 os).forCall (fun _ _ => 0) ⟨#[], args, []⟩).memory :=
  laidMetH_of_parts3 (fuel := 8) (laidMet_of_run' 8 (by kernel_rfl) (by kernel_rfl)) (by kernel_rfl) (by kernel_rfl)
end Go.Proofs.Qxb6002357aDoor
