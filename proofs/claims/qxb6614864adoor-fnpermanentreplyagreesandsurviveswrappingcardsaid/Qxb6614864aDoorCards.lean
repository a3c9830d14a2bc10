/-
  DERIVED. GIVEN WITH THE SEED: THE CARDS: each row of Qxb6614864aDoorRows.lean that lists a variable, with what it lists TIED to the program's text (the seventh form; the later family's looks); each row that meets fmt, with fmt's text TOLD by the authors' own Lean function (tested against real Go, not proved from fmt's source: count such statements apart). THE CARD IS WHAT COUNTS. Prove the row's statement (the work); the ties are given (Qxb6614864aDoorTie.lean); close each card by the builder's one call (the guide's Derived/Test/ToyasCard.lean, 'card_holds'). Laid BY PROGRAM, IN A SANDBOX (cutbox-door.mjs). By AI agents, Wed Nov 11 2026. No macro, syntax, notation, axiom, sorry.
-/
import Derived.Test.Qxb6614864aDoorRows
import GoSem.ClaimSeven
namespace Go.Proofs.Qxb6614864aDoor
namespace Rows

/-- THE TIED CARD OF 'zzlaws_relay_b1.FnPermanentReplyAgreesAndSurvivesWrapping'. -/
def fnPermanentReplyAgreesAndSurvivesWrappingCard : Claim7 := { stood := { row := fnPermanentReplyAgreesAndSurvivesWrappingRow, standIns := [], harness := (true, "b2756913ebc971b3e1fd6428419ce89ecf8b2dce645aa6a9e53c6941a3ffd729"), looks := true }, kinds := [], alts := [], laidByText := true, laidKinds := [.handle], laidTests := true, laidLooks := .later }
def FnPermanentReplyAgreesAndSurvivesWrappingCardSaid : Prop := Claim7.holds Tryd.pinned (.plain (OpenSpec.ofChange fnPermanentReplyAgreesAndSurvivesWrappingSpec)) fnPermanentReplyAgreesAndSurvivesWrappingCard

/-- THE TIED CARD OF 'zzlaws_relay_b1.FnPermanentConversionWinsAnyJoin'. -/
def fnPermanentConversionWinsAnyJoinCard : Claim7 := { stood := { row := fnPermanentConversionWinsAnyJoinRow, standIns := [], harness := (true, "b2756913ebc971b3e1fd6428419ce89ecf8b2dce645aa6a9e53c6941a3ffd729"), looks := true }, kinds := [], alts := [], laidByText := true, laidKinds := [.handle], laidTests := true, laidLooks := .later }
def FnPermanentConversionWinsAnyJoinCardSaid : Prop := Claim7.holds Tryd.pinned (.plain (OpenSpec.ofChange fnPermanentConversionWinsAnyJoinSpec)) fnPermanentConversionWinsAnyJoinCard

/-- THE TIED CARD OF 'zzlaws_relay_b1.FnDotWriteAnyCutMatchesModel'. -/
def fnDotWriteAnyCutMatchesModelCard : Claim7 := { stood := { row := fnDotWriteAnyCutMatchesModelRow, standIns := [], harness := (true, "b2756913ebc971b3e1fd6428419ce89ecf8b2dce645aa6a9e53c6941a3ffd729"), looks := true }, kinds := [], alts := [], laidByText := true, laidKinds := [.sentinel], laidTests := true, laidLooks := .later }
def FnDotWriteAnyCutMatchesModelCardSaid : Prop := Claim7.holds Tryd.pinned (.plain (OpenSpec.ofChange fnDotWriteAnyCutMatchesModelSpec)) fnDotWriteAnyCutMatchesModelCard

/-- THE TIED CARD OF 'zzlaws_relay_b1.FnDotWriteChunksUnstuffBack'. -/
def fnDotWriteChunksUnstuffBackCard : Claim7 := { stood := { row := fnDotWriteChunksUnstuffBackRow, standIns := [], harness := (true, "b2756913ebc971b3e1fd6428419ce89ecf8b2dce645aa6a9e53c6941a3ffd729"), looks := true }, kinds := [], alts := [], laidByText := true, laidKinds := [.sentinel], laidTests := true, laidLooks := .later }
def FnDotWriteChunksUnstuffBackCardSaid : Prop := Claim7.holds Tryd.pinned (.plain (OpenSpec.ofChange fnDotWriteChunksUnstuffBackSpec)) fnDotWriteChunksUnstuffBackCard
end Rows
end Go.Proofs.Qxb6614864aDoor
