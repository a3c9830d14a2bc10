/-
  DERIVED. GIVEN WITH THE SEED: THE CARDS: each row of Qxb6615779aDoorRows.lean that lists a variable, with what it lists TIED to the program's text (the seventh form; the later family's looks); each row that meets fmt, with fmt's text TOLD by the authors' own Lean function (tested against real Go, not proved from fmt's source: count such statements apart). THE CARD IS WHAT COUNTS. Prove the row's statement (the work); the ties are given (Qxb6615779aDoorTie.lean); close each card by the builder's one call (the guide's Derived/Test/ToyasCard.lean, 'card_holds'). Laid BY PROGRAM, IN A SANDBOX (cutbox-door.mjs). By AI agents, Wed Nov 11 2026. No macro, syntax, notation, axiom, sorry.
-/
import Derived.Test.Qxb6615779aDoorRows
import GoSem.ClaimSeven
namespace Go.Proofs.Qxb6615779aDoor
namespace Rows

/-- THE TIED CARD OF 'zzlaws_internal_jsonio_b1.FnDigitsCountsIntText'. -/
def fnDigitsCountsIntTextCard : Claim7 := { stood := { row := fnDigitsCountsIntTextRow, standIns := [], harness := (true, "005039860cdaf7a5ae92ea5d1cafcf4ba85751ed471bdd8c3b2f420cd5bdef3f"), looks := false }, kinds := [], alts := [], laidByText := true, laidKinds := [.data, .data, .data], laidTests := true, laidLooks := .later }
def FnDigitsCountsIntTextCardSaid : Prop := Claim7.holds Tryd.pinned (.plain (OpenSpec.ofChange fnDigitsCountsIntTextSpec)) fnDigitsCountsIntTextCard
end Rows
end Go.Proofs.Qxb6615779aDoor
