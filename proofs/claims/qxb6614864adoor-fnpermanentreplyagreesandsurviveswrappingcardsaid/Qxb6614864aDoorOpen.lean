import Derived.Test.Qxb6614864aDoorRows
import Derived.Test.Qxb6614864aDoorTie
import Derived.WalkKit
import Derived.ProofKit
import Derived.OpenShut
import Derived.ChangeVars
import Derived.ChangeSame
import Derived.ChangeMaps5
import Derived.LaidMore
import Derived.LaidHandle
import Derived.LaidLaws
import Derived.Stop.Joined
import Derived.RowKitTokens
namespace Go.Proofs.Qxb6614864aDoor
open Go.ChangeShapes Go.WideShapes Go.ChangeAt Go.RowKit

theorem own : ownKnob Tryd.prog.godebug = none := by kernel_rfl
theorem et : Tryd.prog.globalNamed "errors.errorType" = some 1 := by kernel_rfl
/-- The name of the dynamic type of the listed datum. -/
def rtN : String := match (Rows.laid_errors_errorType : DataW Unit) with
  | .iface n _ => n
  | _ => ""
theorem rt : (Tryd.prog.cutTypes.find? (·.1 == rtN)).map (·.2) = some 95 := by kernel_rfl
theorem oneRow : ((List.range 149).filter fun t => Tryd.prog.rowNamed t [101, 114, 114, 111, 114]) = [32] := by kernel_rfl
theorem tsize : Tryd.prog.types.size = 149 := by kernel_rfl

/-- What the condition gives a walk: the variable's one cell. -/
theorem handle_of_laid {W : World} (h : laidMetH Tryd.prog Rows.fnPermanentReplyAgreesAndSurvivesWrappingRow.laid W) : W.cell? ⟨1, 0, none⟩ = some (.iface 95 (.agg #[.pointer (some ⟨4, 32, none⟩)])) := by
  have h' : laidMet Tryd.prog [] W ∧ handlesMet Tryd.prog Rows.fnPermanentReplyAgreesAndSurvivesWrappingRow.laid W := h
  obtain ⟨name, u, ty, e1, e2, e3, e4, e5⟩ := h'.2 _ (List.mem_singleton.2 rfl)
  have en : name = [101, 114, 114, 111, 114] := (Option.some.inj e1).symm
  subst en
  obtain rfl := Option.some.inj (rt.symm.trans e2)
  have hm : ty ∈ (List.range 149).filter fun t => Tryd.prog.rowNamed t [101, 114, 114, 111, 114] := List.mem_filter.2 ⟨List.mem_range.2 (by rw [← tsize]; exact e3), e4⟩
  rw [oneRow] at hm
  obtain rfl := List.mem_singleton.1 hm
  have hh : typeHandle Tryd.prog 32 = .pointer (some ⟨4, 32, none⟩) := by kernel_rfl
  rw [hh] at e5
  simpa using World.var?_cell et e5 0

/-- The door's own heap meets the condition. -/
theorem door_met (os : Os) (args : Array Value) : laidMetH Tryd.prog Rows.fnPermanentReplyAgreesAndSurvivesWrappingRow.laid ((World.doorLaid Tryd.prog 400 os).forCall (fun _ _ => 0) ⟨#[], args, []⟩).memory :=
  laidMetH_of_parts3 (fuel := 8) (laidMet_of_run' 8 (by kernel_rfl) (by kernel_rfl)) (by kernel_rfl) (by kernel_rfl)
end Go.Proofs.Qxb6614864aDoor
