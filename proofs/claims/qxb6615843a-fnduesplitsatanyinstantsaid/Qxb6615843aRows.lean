/-
  No cell of these rows narrows 'for every input' (looked for: loops, veiled, ifaces, maps, wideKeys, modest, calm, conditions, laid).
  DERIVED. THE GIVEN ROWS OF THIS SEAT. 1 by the template 'for every input the law returns true; each argument reads behind the call as it read before'; 0 by the template 'total and deterministic' (their statements: Qxb6615843aTotals.lean).
  GIVEN WITH THE SEED: the statements are not yours to turn. If you find one false, say at which input.
  Laid BY PROGRAM, IN A SANDBOX (cutbox-rows.mjs): the forced cells as the released guide's own fill.sh prints them over the translation be14da77812859cb… (all of the seat's roots in one cut). By AI agents, Wed Nov 11 2026. No macro, syntax, notation, axiom, sorry.
-/
import Derived.Test.Qxb6615843aChecked
import GoSem.Claim
import GoSem.ClaimJoined
import GoSem.ClaimMapViews
import Derived.JoinedTies
import Derived.KernelRfl
namespace Go.Proofs.Qxb6615843a
/- THE CELL 'sum', in the pinned program and in every row, IS THE sha256 OF THE DUMP (.gsa) THAT Qxb6615843aProg.lean LOADS. Nothing in Lean hashes anything: it is a label: what it is worth is what the hold of that sum in a sandbox is worth. -/
noncomputable def Try.pinned : Pinned := { name := "qxb6615843a", sum := "be14da77812859cb7ef9abe2af3e15ebc96a7f7f38846f49ba0b6d08a750949b", checked := Try.checked }
namespace Rows
def none {H : Type} : Left H := { results := [], args := [] }

/-- 'zzlaws_internal_watcher_b1.FnDueSplitsAtAnyInstant': WHATEVER THE INPUT: true; the input reads as it did. -/
def fnDueSplitsAtAnyInstantSpec : ChangeSpec := { name := "fnDueSplitsAtAnyInstant", fn := fun _ => fun
  | [d1, d2, d3, d4, d5, d6] => { results := [.lit (.bool true)], args := [d1, d2, d3, d4, d5, d6] }
  | _ => none }
def fnDueSplitsAtAnyInstantRow : OpenClaim := { program := "qxb6615843a", sum := "be14da77812859cb7ef9abe2af3e15ebc96a7f7f38846f49ba0b6d08a750949b", func := "example.com/tidewatch/tidewatch/zzlaws_internal_watcher_b1.FnDueSplitsAtAnyInstant", spec := "fnDueSplitsAtAnyInstant", unfollowed := true, recurses := true, plainKeys := false, apart := false }
def FnDueSplitsAtAnyInstantSaid : Prop := fnDueSplitsAtAnyInstantRow.holds Try.pinned (OpenSpec.ofChange fnDueSplitsAtAnyInstantSpec)

/-- ITS FALSE NEIGHBOUR: 'it returns false'. Refute it at one input. -/
def fnDueSplitsAtAnyInstantWrong : ChangeSpec := { name := "fnDueSplitsAtAnyInstant", fn := fun _ => fun
  | [d1, d2, d3, d4, d5, d6] => { results := [.lit (.bool false)], args := [d1, d2, d3, d4, d5, d6] }
  | _ => none }
def FnDueSplitsAtAnyInstantWrongFalsely : Prop := fnDueSplitsAtAnyInstantRow.holds Try.pinned (OpenSpec.ofChange fnDueSplitsAtAnyInstantWrong)

end Rows
end Go.Proofs.Qxb6615843a
