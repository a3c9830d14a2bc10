/-
  No cell of these rows narrows 'for every input' (looked for: loops, veiled, ifaces, maps, wideKeys, modest, calm, conditions, laid).
  DERIVED. THE GIVEN ROWS OF THIS SEAT. 1 by the template 'for every input the law returns true; each argument reads behind the call as it read before'; 0 by the template 'total and deterministic' (their statements: Qxb6615779aTotals.lean).
  GIVEN WITH THE SEED: the statements are not yours to turn. If you find one false, say at which input.
  Laid BY PROGRAM, IN A SANDBOX (cutbox-rows.mjs): the forced cells as the released guide's own fill.sh prints them over the translation 4e1ec7bf6a7cc5d3… (all of the seat's roots in one cut). By AI agents, Wed Nov 11 2026. No macro, syntax, notation, axiom, sorry.
-/
import Derived.Test.Qxb6615779aChecked
import GoSem.Claim
import GoSem.ClaimJoined
import GoSem.ClaimMapViews
import Derived.JoinedTies
import Derived.KernelRfl
namespace Go.Proofs.Qxb6615779a
/- THE CELL 'sum', in the pinned program and in every row, IS THE sha256 OF THE DUMP (.gsa) THAT Qxb6615779aProg.lean LOADS. Nothing in Lean hashes anything: it is a label: what it is worth is what the hold of that sum in a sandbox is worth. -/
noncomputable def Try.pinned : Pinned := { name := "qxb6615779a", sum := "4e1ec7bf6a7cc5d3524550117a9c3152eb60bfb91f4d1dad156165d689a14ee2", checked := Try.checked }
namespace Rows
def none {H : Type} : Left H := { results := [], args := [] }

/-- 'zzlaws_internal_jsonio_b1.FnDigitsLongestRunAtAnyCut': WHATEVER THE INPUT: true; the input reads as it did. -/
def fnDigitsLongestRunAtAnyCutSpec : ChangeSpec := { name := "fnDigitsLongestRunAtAnyCut", fn := fun _ => fun
  | [d1, d2, d3] => { results := [.lit (.bool true)], args := [d1, d2, d3] }
  | _ => none }
def fnDigitsLongestRunAtAnyCutRow : OpenClaim := { program := "qxb6615779a", sum := "4e1ec7bf6a7cc5d3524550117a9c3152eb60bfb91f4d1dad156165d689a14ee2", func := "example.com/plaint/plaint/zzlaws_internal_jsonio_b1.FnDigitsLongestRunAtAnyCut", spec := "fnDigitsLongestRunAtAnyCut", apart := false }
def FnDigitsLongestRunAtAnyCutSaid : Prop := fnDigitsLongestRunAtAnyCutRow.holds Try.pinned (OpenSpec.ofChange fnDigitsLongestRunAtAnyCutSpec)

/-- ITS FALSE NEIGHBOUR: 'it returns false'. Refute it at one input. -/
def fnDigitsLongestRunAtAnyCutWrong : ChangeSpec := { name := "fnDigitsLongestRunAtAnyCut", fn := fun _ => fun
  | [d1, d2, d3] => { results := [.lit (.bool false)], args := [d1, d2, d3] }
  | _ => none }
def FnDigitsLongestRunAtAnyCutWrongFalsely : Prop := fnDigitsLongestRunAtAnyCutRow.holds Try.pinned (OpenSpec.ofChange fnDigitsLongestRunAtAnyCutWrong)

end Rows
end Go.Proofs.Qxb6615779a
