/-
  DERIVED. GIVEN WITH THE SEED: THE CARDS: each row of YtmpdhdnoohmndaaGreatDoorRows.lean that lists a variable, with what it lists TIED to the program's text (the seventh form; the later family's looks); each row that meets fmt, with fmt's text TOLD by the authors' own Lean function (tested against real Go, not proved from fmt's source: count such statements apart). THE CARD IS WHAT COUNTS. Prove the row's statement (the work); the ties are given (YtmpdhdnoohmndaaGreatDoorTie.lean); close each card by the builder's one call (the guide's Derived/Test/ToyasCard.lean, 'card_holds'). Laid BY PROGRAM, IN A SANDBOX (cutbox-door.mjs). By AI agents, Wed Nov 11 2026. No macro, syntax, notation, axiom, sorry.
-/
import Derived.Test.YtmpdhdnoohmndaaGreatDoorRows
import GoSem.ClaimSeven
namespace Go.Proofs.YtmpdhdnoohmndaaGreatDoor
namespace Rows

/-- THE TIED CARD OF 'laws.FnPrSortedKeys'. -/
def fnPrSortedKeysCard : Claim7 := { stood := { row := fnPrSortedKeysRow, standIns := [], harness := (true, "14086f7c1fe9ad6e5878d55b1c822b7a88b1f1acd4b9ed12eba9fe2e760694c5"), looks := true }, kinds := [], alts := [], laidByText := true, laidKinds := [.data, .data, .widerDeep, .widerDeep, .data, .data, .data, .data, .data, .sentinel, .sentinel, .data, .pinned, .pinned], laidTests := true, laidLooks := .later }
def FnPrSortedKeysCardSaid : Prop := Claim7.holds Tryz.pinned (.plain (OpenSpec.ofChange fnPrSortedKeysSpec)) fnPrSortedKeysCard

/-- THE SECOND FORM's CARD OF 'laws.FnPrSortedKeys'. -/
def fnPrSortedKeysUptoCard : Claim7 := { stood := { row := fnPrSortedKeysUptoRow, standIns := [], harness := (true, "14086f7c1fe9ad6e5878d55b1c822b7a88b1f1acd4b9ed12eba9fe2e760694c5"), looks := true }, kinds := [], alts := [], laidByText := true, laidKinds := [.data, .data, .widerDeep, .widerDeep, .data, .data, .data, .data, .data, .sentinel, .sentinel, .data, .pinned, .pinned], laidTests := true, laidLooks := .later }
def FnPrSortedKeysUptoCardSaid : Prop := Claim7.holds Tryz.pinned (.plain (OpenSpec.upto fnPrSortedKeysSpec)) fnPrSortedKeysUptoCard
end Rows
end Go.Proofs.YtmpdhdnoohmndaaGreatDoor
