/-
  DERIVED. GIVEN WITH THE SEED: THE CARDS: each row of Qxb6615779aFmtRows.lean that lists a variable, with what it lists TIED to the program's text (the seventh form; the later family's looks); each row that meets fmt, with fmt's text TOLD by the authors' own Lean function (tested against real Go, not proved from fmt's source: count such statements apart). THE CARD IS WHAT COUNTS. Prove the row's statement (the work); the ties are given (Qxb6615779aFmtTie.lean); close each card by the builder's one call (the guide's Derived/Test/ToyasCard.lean, 'card_holds'). Laid BY PROGRAM, IN A SANDBOX (cutbox-door.mjs). By AI agents, Wed Nov 11 2026. No macro, syntax, notation, axiom, sorry.
-/
import Derived.Test.Qxb6615779aFmtRows
import GoSem.ClaimSeven
namespace Go.Proofs.Qxb6615779aFmt
namespace Rows

/-- THE TOLD AND TIED CARD OF 'zzlaws_internal_jsonio_b1.FnBeginArrayThenIntsLayout'. -/
def fnBeginArrayThenIntsLayoutCard : Claim7 := { stood := { row := fnBeginArrayThenIntsLayoutRow, standIns := [], harness := (true, "22c6506d1378a0f5b317d0709375ca358af690a5894f652130f3aa6407796720"), looks := false }, told := true, laidByText := true, laidKinds := [.data, .data, .data, .sentinel], laidTests := true, laidLooks := .later, goes := false }
def FnBeginArrayThenIntsLayoutToldSaid : Prop := Claim7.holds Tryf.pinned (.plain (OpenSpec.ofChange fnBeginArrayThenIntsLayoutSpec)) fnBeginArrayThenIntsLayoutCard
/-- ITS FALSE NEIGHBOUR. Refute it at one input. -/
def FnBeginArrayThenIntsLayoutToldWrongFalsely : Prop := Claim7.holds Tryf.pinned (.plain (OpenSpec.ofChange fnBeginArrayThenIntsLayoutWrong)) fnBeginArrayThenIntsLayoutCard
end Rows
end Go.Proofs.Qxb6615779aFmt
