/-
  DERIVED. GIVEN WITH THE SEED: THE CARDS: each row of YtcpijmbdibgdmaaGreatDoorRows.lean that lists a variable, with what it lists TIED to the program's text (the seventh form; the later family's looks); each row that meets fmt, with fmt's text TOLD by the authors' own Lean function (tested against real Go, not proved from fmt's source: count such statements apart). THE CARD IS WHAT COUNTS. Prove the row's statement (the work); the ties are given (YtcpijmbdibgdmaaGreatDoorTie.lean); close each card by the builder's one call (the guide's Derived/Test/ToyasCard.lean, 'card_holds'). Laid BY PROGRAM, IN A SANDBOX (cutbox-door.mjs). By AI agents, Wed Nov 11 2026. No macro, syntax, notation, axiom, sorry.
-/
import Derived.Test.YtcpijmbdibgdmaaGreatDoorRows
import GoSem.ClaimSeven
namespace Go.Proofs.YtcpijmbdibgdmaaGreatDoor
namespace Rows

/-- THE TIED CARD OF 'laws.FnClone'. -/
def fnCloneCard : Claim7 := { stood := { row := fnCloneRow, standIns := [], harness := (true, "88c6644c0f6b4708e55e7cbf03ce24faefeacb3d093ee3061766b80e99ea6e18"), looks := true }, kinds := [], alts := [], laidByText := true, laidKinds := [.data, .data, .widerDeep, .widerDeep, .data, .data, .data, .data, .data, .sentinel, .sentinel, .pinned, .pinned], laidTests := true, laidLooks := .later }
def FnCloneCardSaid : Prop := Claim7.holds Tryz.pinned (.plain (OpenSpec.ofChange fnCloneSpec)) fnCloneCard

/-- THE TIED CARD OF 'laws.FnEntries'. -/
def fnEntriesCard : Claim7 := { stood := { row := fnEntriesRow, standIns := [], harness := (true, "88c6644c0f6b4708e55e7cbf03ce24faefeacb3d093ee3061766b80e99ea6e18"), looks := true }, kinds := [], alts := [], laidByText := true, laidKinds := [.data, .data, .widerDeep, .widerDeep, .data, .data, .data, .data, .data, .sentinel, .sentinel, .sentinel, .pinned, .pinned], laidTests := true, laidLooks := .later }
def FnEntriesCardSaid : Prop := Claim7.holds Tryz.pinned (.plain (OpenSpec.ofChange fnEntriesSpec)) fnEntriesCard

/-- THE SECOND FORM's CARD OF 'laws.FnClone'. -/
def fnCloneUptoCard : Claim7 := { stood := { row := fnCloneUptoRow, standIns := [], harness := (true, "88c6644c0f6b4708e55e7cbf03ce24faefeacb3d093ee3061766b80e99ea6e18"), looks := true }, kinds := [], alts := [], laidByText := true, laidKinds := [.data, .data, .widerDeep, .widerDeep, .data, .data, .data, .data, .data, .sentinel, .sentinel, .pinned, .pinned], laidTests := true, laidLooks := .later }
def FnCloneUptoCardSaid : Prop := Claim7.holds Tryz.pinned (.plain (OpenSpec.upto fnCloneSpec)) fnCloneUptoCard

/-- THE SECOND FORM's CARD OF 'laws.FnEntries'. -/
def fnEntriesUptoCard : Claim7 := { stood := { row := fnEntriesUptoRow, standIns := [], harness := (true, "88c6644c0f6b4708e55e7cbf03ce24faefeacb3d093ee3061766b80e99ea6e18"), looks := true }, kinds := [], alts := [], laidByText := true, laidKinds := [.data, .data, .widerDeep, .widerDeep, .data, .data, .data, .data, .data, .sentinel, .sentinel, .sentinel, .pinned, .pinned], laidTests := true, laidLooks := .later }
def FnEntriesUptoCardSaid : Prop := Claim7.holds Tryz.pinned (.plain (OpenSpec.upto fnEntriesSpec)) fnEntriesUptoCard
end Rows
end Go.Proofs.YtcpijmbdibgdmaaGreatDoor
