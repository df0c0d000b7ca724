/-
  DERIVED. GIVEN WITH THE SEED: THE CARDS: each row of YtkjnahgicfmicaaGreatDoorRows.lean that lists a variable, with what it lists TIED to the program's text (the seventh form; the later family's looks); each row that meets fmt, with fmt's text TOLD by the authors' own Lean function (tested against real Go, not proved from fmt's source: count such statements apart). THE CARD IS WHAT COUNTS. Prove the row's statement (the work); the ties are given (YtkjnahgicfmicaaGreatDoorTie.lean); close each card by the builder's one call (the guide's Derived/Test/ToyasCard.lean, 'card_holds'). Laid BY PROGRAM, IN A SANDBOX (cutbox-door.mjs). By AI agents, Wed Nov 11 2026. No macro, syntax, notation, axiom, sorry.
-/
import Derived.Test.YtkjnahgicfmicaaGreatDoorRows
import GoSem.ClaimSeven
namespace Go.Proofs.YtkjnahgicfmicaaGreatDoor
namespace Rows

/-- THE TIED CARD OF 'laws.FnGjItems'. -/
def fnGjItemsCard : Claim7 := { stood := { row := fnGjItemsRow, standIns := [], harness := (true, "437d6ec8923ceae45fdfdef2aec57437b61d00c4deb9175a38a5ae635826e537"), looks := true }, kinds := [], alts := [], laidByText := true, laidKinds := [.data, .data, .widerDeep, .widerDeep, .data, .data, .data, .data, .data, .sentinel, .sentinel, .data, .pinned, .pinned], laidTests := true, laidLooks := .later }
def FnGjItemsCardSaid : Prop := Claim7.holds Tryz.pinned (.plain (OpenSpec.ofChange fnGjItemsSpec)) fnGjItemsCard

/-- THE TIED CARD OF 'laws.FnGjPairs'. -/
def fnGjPairsCard : Claim7 := { stood := { row := fnGjPairsRow, standIns := [], harness := (true, "437d6ec8923ceae45fdfdef2aec57437b61d00c4deb9175a38a5ae635826e537"), looks := true }, kinds := [], alts := [], laidByText := true, laidKinds := [.data, .data, .widerDeep, .widerDeep, .data, .data, .data, .data, .data, .sentinel, .sentinel, .data, .pinned, .pinned], laidTests := true, laidLooks := .later }
def FnGjPairsCardSaid : Prop := Claim7.holds Tryz.pinned (.plain (OpenSpec.ofChange fnGjPairsSpec)) fnGjPairsCard

/-- THE TIED CARD OF 'laws.FnGjReverseTextTwice'. -/
def fnGjReverseTextTwiceCard : Claim7 := { stood := { row := fnGjReverseTextTwiceRow, standIns := [], harness := (true, "437d6ec8923ceae45fdfdef2aec57437b61d00c4deb9175a38a5ae635826e537"), looks := true }, kinds := [], alts := [], laidByText := true, laidKinds := [.data, .data, .widerDeep, .widerDeep, .data, .data, .data, .data, .data, .sentinel, .sentinel, .data, .pinned, .pinned], laidTests := true, laidLooks := .later }
def FnGjReverseTextTwiceCardSaid : Prop := Claim7.holds Tryz.pinned (.plain (OpenSpec.ofChange fnGjReverseTextTwiceSpec)) fnGjReverseTextTwiceCard

/-- THE SECOND FORM's CARD OF 'laws.FnGjItems'. -/
def fnGjItemsUptoCard : Claim7 := { stood := { row := fnGjItemsUptoRow, standIns := [], harness := (true, "437d6ec8923ceae45fdfdef2aec57437b61d00c4deb9175a38a5ae635826e537"), looks := true }, kinds := [], alts := [], laidByText := true, laidKinds := [.data, .data, .widerDeep, .widerDeep, .data, .data, .data, .data, .data, .sentinel, .sentinel, .data, .pinned, .pinned], laidTests := true, laidLooks := .later }
def FnGjItemsUptoCardSaid : Prop := Claim7.holds Tryz.pinned (.plain (OpenSpec.upto fnGjItemsSpec)) fnGjItemsUptoCard

/-- THE SECOND FORM's CARD OF 'laws.FnGjPairs'. -/
def fnGjPairsUptoCard : Claim7 := { stood := { row := fnGjPairsUptoRow, standIns := [], harness := (true, "437d6ec8923ceae45fdfdef2aec57437b61d00c4deb9175a38a5ae635826e537"), looks := true }, kinds := [], alts := [], laidByText := true, laidKinds := [.data, .data, .widerDeep, .widerDeep, .data, .data, .data, .data, .data, .sentinel, .sentinel, .data, .pinned, .pinned], laidTests := true, laidLooks := .later }
def FnGjPairsUptoCardSaid : Prop := Claim7.holds Tryz.pinned (.plain (OpenSpec.upto fnGjPairsSpec)) fnGjPairsUptoCard

/-- THE SECOND FORM's CARD OF 'laws.FnGjReverseTextTwice'. -/
def fnGjReverseTextTwiceUptoCard : Claim7 := { stood := { row := fnGjReverseTextTwiceUptoRow, standIns := [], harness := (true, "437d6ec8923ceae45fdfdef2aec57437b61d00c4deb9175a38a5ae635826e537"), looks := true }, kinds := [], alts := [], laidByText := true, laidKinds := [.data, .data, .widerDeep, .widerDeep, .data, .data, .data, .data, .data, .sentinel, .sentinel, .data, .pinned, .pinned], laidTests := true, laidLooks := .later }
def FnGjReverseTextTwiceUptoCardSaid : Prop := Claim7.holds Tryz.pinned (.plain (OpenSpec.upto fnGjReverseTextTwiceSpec)) fnGjReverseTextTwiceUptoCard
end Rows
end Go.Proofs.YtkjnahgicfmicaaGreatDoor
