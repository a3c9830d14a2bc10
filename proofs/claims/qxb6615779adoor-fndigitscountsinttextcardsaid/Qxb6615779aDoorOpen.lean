import Derived.Test.Qxb6615779aDoorRows
import Derived.Test.Qxb6615779aDoorTie
import Derived.Test.Qxb6615779aDoorLaw
import Derived.WalkKit
import Derived.ProofKit
import Derived.OpenShut
import Derived.ChangeVars
import Derived.ChangeSame
import Derived.ChangeMaps5
import Derived.LaidMore
import Derived.LaidHandle
import Derived.LaidLaws
import Derived.Lib.LaidTab
import Derived.Stop.Joined
import Derived.Stop.LaidErr
import Derived.RowKitTokens
namespace Go.Proofs.Qxb6615779aDoor
open Go.ChangeShapes Go.WideShapes Go.ChangeAt Go.RowKit

theorem own : ownKnob Tryd.prog.godebug = none := by kernel_rfl
theorem gPow : Tryd.prog.globalNamed powN = some 0 := by kernel_rfl
theorem gPowT : (Tryd.prog.globals[0]?).map (·.type) = some 57 := by kernel_rfl
theorem wf_lo {n : Int} (h : (Lit.int .i64 n).wf = true) : -9223372036854775808 ≤ n := by
  have := h; simp [Lit.wf] at this; have e : IntKind.i64.min = -9223372036854775808 := by decide
  omega
theorem wf_hi {n : Int} (h : (Lit.int .i64 n).wf = true) : n ≤ 9223372036854775807 := by
  have := h; simp [Lit.wf] at this; have e : IntKind.i64.max = 9223372036854775807 := by decide
  omega

/-- What the condition gives a walk: the table. -/
theorem tab_of_laid {W : World} (h : laidMetH Tryd.prog Rows.fnDigitsCountsIntTextRow.laid W) : Lib.TabIs Tryd.prog W powN .u64 Lib.pow10Tab := by
  have h' : laidMet Tryd.prog Rows.fnDigitsCountsIntTextRow.laid W := h
  have h2 : laidMet Tryd.prog [(powN, Lib.tabData .u64 Lib.pow10Tab)] W := h'.tail.tail
  exact Lib.tabIs_of_head gPow gPowT Tryd.underlying57 Tryd.underlying47 (by kernel_rfl) (by kernel_rfl) h2

/-- The door's own heap meets the condition. -/
theorem door_met (os : Os) (args : Array Value) : laidMetH Tryd.prog Rows.fnDigitsCountsIntTextRow.laid ((World.doorLaid Tryd.prog 400 os).forCall (fun _ _ => 0) ⟨#[], args, []⟩).memory :=
  laidMetH_of_parts3 (fuel := 8) (laidMet_of_run' 8 (by kernel_rfl) (by kernel_rfl)) (by kernel_rfl) (by kernel_rfl)
end Go.Proofs.Qxb6615779aDoor
