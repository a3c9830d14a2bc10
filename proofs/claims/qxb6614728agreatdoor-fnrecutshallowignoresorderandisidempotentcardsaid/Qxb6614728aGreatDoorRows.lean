/-
  NARROWER THAN 'FOR EVERY INPUT', by the rows' own cells (each row's printed sentence says how): FnRecutShallowGivesSortedSetsAndShallowestFacts: laid · FnRecutShallowIgnoresOrderAndIsIdempotent: laid.
  DERIVED. THE GIVEN ROWS OF THIS SEAT. 2 by the template 'for every input the law returns true; each argument reads behind the call as it read before'; 0 by the template 'total and deterministic' (their statements: Qxb6614728aGreatDoorTotals.lean).
  GIVEN WITH THE SEED: the statements are not yours to turn. If you find one false, say at which input.
  Laid BY PROGRAM, IN A SANDBOX (cutbox-rows.mjs): the forced cells as the released guide's own fill.sh prints them over the translation bdd44b17b6b3ce05… (all of the seat's roots in one cut). By AI agents, Wed Nov 11 2026. No macro, syntax, notation, axiom, sorry.
-/
import Derived.Test.Qxb6614728aGreatDoorChecked
import GoSem.Claim
import GoSem.ClaimJoined
import GoSem.ClaimMapViews
import Derived.JoinedTies
import Derived.KernelRfl
namespace Go.Proofs.Qxb6614728aGreatDoor
/- THE CELL 'sum', in the pinned program and in every row, IS THE sha256 OF THE DUMP (.gsa) THAT Qxb6614728aGreatDoorProg.lean LOADS. Nothing in Lean hashes anything: it is a label: what it is worth is what the hold of that sum in a sandbox is worth. -/
noncomputable def Tryz.pinned : Pinned := { name := "qxb6614728agreatdoor", sum := "bdd44b17b6b3ce05f58ebde50135ba97a9c0a5855b777f8984e2b2c545a65dd4", checked := Tryz.checked }
namespace Rows
def none {H : Type} : Left H := { results := [], args := [] }

/- WHAT THE LISTED PACKAGE-LEVEL VARIABLES READ AS WHEN THE CALL BEGINS. Each datum BY PROGRAM (the guide's laid-datum.mjs) off the statement by which the dump's own 'gosem.cut.vars' lays the variable. In a bare row this is a premise. The card (Qxb6614728aGreatDoorCards.lean) ties it to the program's text. -/
def laid_example_com_commitpoint_commitpoint_noEdge {H : Type} : DataW H := .agg [.lit (.int .i64 (-1)), .lit (.int .i64 (-1))]

/-- 'zzlaws_root_b1.FnRecutShallowGivesSortedSetsAndShallowestFacts': WHATEVER THE INPUT: true; the input reads as it did. -/
def fnRecutShallowGivesSortedSetsAndShallowestFactsSpec : ChangeSpec := { name := "fnRecutShallowGivesSortedSetsAndShallowestFacts", vars := ["example.com/commitpoint/commitpoint.noEdge"], fn := fun _ => fun
  | [d1, d2, d3, d4, d5, d6, g1] => { results := [.lit (.bool true)], args := [d1, d2, d3, d4, d5, d6], vars := [g1] }
  | _ => none }
def fnRecutShallowGivesSortedSetsAndShallowestFactsRow : OpenClaim := { program := "qxb6614728agreatdoor", sum := "bdd44b17b6b3ce05f58ebde50135ba97a9c0a5855b777f8984e2b2c545a65dd4", func := "example.com/commitpoint/commitpoint/zzlaws_root_b1.FnRecutShallowGivesSortedSetsAndShallowestFacts", spec := "fnRecutShallowGivesSortedSetsAndShallowestFacts", unfollowed := true, recurses := true, named := ["example.com/commitpoint/commitpoint.noEdge"], plainKeys := false, apart := false, laid := [("example.com/commitpoint/commitpoint.noEdge", laid_example_com_commitpoint_commitpoint_noEdge)] }
def FnRecutShallowGivesSortedSetsAndShallowestFactsSaid : Prop := fnRecutShallowGivesSortedSetsAndShallowestFactsRow.holds Tryz.pinned (OpenSpec.ofChange fnRecutShallowGivesSortedSetsAndShallowestFactsSpec)

/-- ITS FALSE NEIGHBOUR: 'it returns false'. Refute it at one input. -/
def fnRecutShallowGivesSortedSetsAndShallowestFactsWrong : ChangeSpec := { name := "fnRecutShallowGivesSortedSetsAndShallowestFacts", vars := ["example.com/commitpoint/commitpoint.noEdge"], fn := fun _ => fun
  | [d1, d2, d3, d4, d5, d6, g1] => { results := [.lit (.bool false)], args := [d1, d2, d3, d4, d5, d6], vars := [g1] }
  | _ => none }
def FnRecutShallowGivesSortedSetsAndShallowestFactsWrongFalsely : Prop := fnRecutShallowGivesSortedSetsAndShallowestFactsRow.holds Tryz.pinned (OpenSpec.ofChange fnRecutShallowGivesSortedSetsAndShallowestFactsWrong)

/-- 'zzlaws_root_b1.FnRecutShallowIgnoresOrderAndIsIdempotent': WHATEVER THE INPUT: true; the input reads as it did. -/
def fnRecutShallowIgnoresOrderAndIsIdempotentSpec : ChangeSpec := { name := "fnRecutShallowIgnoresOrderAndIsIdempotent", vars := ["example.com/commitpoint/commitpoint.noEdge"], fn := fun _ => fun
  | [d1, d2, d3, d4, d5, d6, g1] => { results := [.lit (.bool true)], args := [d1, d2, d3, d4, d5, d6], vars := [g1] }
  | _ => none }
def fnRecutShallowIgnoresOrderAndIsIdempotentRow : OpenClaim := { program := "qxb6614728agreatdoor", sum := "bdd44b17b6b3ce05f58ebde50135ba97a9c0a5855b777f8984e2b2c545a65dd4", func := "example.com/commitpoint/commitpoint/zzlaws_root_b1.FnRecutShallowIgnoresOrderAndIsIdempotent", spec := "fnRecutShallowIgnoresOrderAndIsIdempotent", unfollowed := true, recurses := true, named := ["example.com/commitpoint/commitpoint.noEdge"], plainKeys := false, apart := false, laid := [("example.com/commitpoint/commitpoint.noEdge", laid_example_com_commitpoint_commitpoint_noEdge)] }
def FnRecutShallowIgnoresOrderAndIsIdempotentSaid : Prop := fnRecutShallowIgnoresOrderAndIsIdempotentRow.holds Tryz.pinned (OpenSpec.ofChange fnRecutShallowIgnoresOrderAndIsIdempotentSpec)

/-- ITS FALSE NEIGHBOUR: 'it returns false'. Refute it at one input. -/
def fnRecutShallowIgnoresOrderAndIsIdempotentWrong : ChangeSpec := { name := "fnRecutShallowIgnoresOrderAndIsIdempotent", vars := ["example.com/commitpoint/commitpoint.noEdge"], fn := fun _ => fun
  | [d1, d2, d3, d4, d5, d6, g1] => { results := [.lit (.bool false)], args := [d1, d2, d3, d4, d5, d6], vars := [g1] }
  | _ => none }
def FnRecutShallowIgnoresOrderAndIsIdempotentWrongFalsely : Prop := fnRecutShallowIgnoresOrderAndIsIdempotentRow.holds Tryz.pinned (OpenSpec.ofChange fnRecutShallowIgnoresOrderAndIsIdempotentWrong)

end Rows
end Go.Proofs.Qxb6614728aGreatDoor
