/-
  DERIVED. GIVEN WITH THE SEED: THE CARDS: each row of Qxb6614728aGreatDoorRows.lean that lists a variable, with what it lists TIED to the program's text (the seventh form; the later family's looks); each row that meets fmt, with fmt's text TOLD by the authors' own Lean function (tested against real Go, not proved from fmt's source: count such statements apart). THE CARD IS WHAT COUNTS. Prove the row's statement (the work); the ties are given (Qxb6614728aGreatDoorTie.lean); close each card by the builder's one call (the guide's Derived/Test/ToyasCard.lean, 'card_holds'). Laid BY PROGRAM, IN A SANDBOX (cutbox-door.mjs). By AI agents, Wed Nov 11 2026. No macro, syntax, notation, axiom, sorry.
-/
import Derived.Test.Qxb6614728aGreatDoorRows
import GoSem.ClaimSeven
namespace Go.Proofs.Qxb6614728aGreatDoor
namespace Rows

/-- THE TIED CARD OF 'zzlaws_root_b1.FnRecutShallowGivesSortedSetsAndShallowestFacts'. -/
def fnRecutShallowGivesSortedSetsAndShallowestFactsCard : Claim7 := { stood := { row := fnRecutShallowGivesSortedSetsAndShallowestFactsRow, standIns := [], harness := (true, "734a91cd9a008141d89d4262bc65ae01e2a3708c04b00f4ab306a7a8bedb347d"), looks := false }, kinds := [], alts := [], laidByText := true, laidKinds := [.data], laidTests := true, laidLooks := .later }
def FnRecutShallowGivesSortedSetsAndShallowestFactsCardSaid : Prop := Claim7.holds Tryz.pinned (.plain (OpenSpec.ofChange fnRecutShallowGivesSortedSetsAndShallowestFactsSpec)) fnRecutShallowGivesSortedSetsAndShallowestFactsCard

/-- THE TIED CARD OF 'zzlaws_root_b1.FnRecutShallowIgnoresOrderAndIsIdempotent'. -/
def fnRecutShallowIgnoresOrderAndIsIdempotentCard : Claim7 := { stood := { row := fnRecutShallowIgnoresOrderAndIsIdempotentRow, standIns := [], harness := (true, "734a91cd9a008141d89d4262bc65ae01e2a3708c04b00f4ab306a7a8bedb347d"), looks := false }, kinds := [], alts := [], laidByText := true, laidKinds := [.data], laidTests := true, laidLooks := .later }
def FnRecutShallowIgnoresOrderAndIsIdempotentCardSaid : Prop := Claim7.holds Tryz.pinned (.plain (OpenSpec.ofChange fnRecutShallowIgnoresOrderAndIsIdempotentSpec)) fnRecutShallowIgnoresOrderAndIsIdempotentCard
end Rows
end Go.Proofs.Qxb6614728aGreatDoor
