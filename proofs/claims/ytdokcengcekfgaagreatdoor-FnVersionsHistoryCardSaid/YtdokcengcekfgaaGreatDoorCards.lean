/-
  DERIVED. GIVEN WITH THE SEED: THE CARDS: each row of YtdokcengcekfgaaGreatDoorRows.lean that lists a variable, with what it lists TIED to the program's text (the seventh form; the later family's looks); each row that meets fmt, with fmt's text TOLD by the authors' own Lean function (tested against real Go, not proved from fmt's source: count such statements apart). THE CARD IS WHAT COUNTS. Prove the row's statement (the work); the ties are given (YtdokcengcekfgaaGreatDoorTie.lean); close each card by the builder's one call (the guide's Derived/Test/ToyasCard.lean, 'card_holds'). Laid BY PROGRAM, IN A SANDBOX (cutbox-door.mjs). By AI agents, Wed Nov 11 2026. No macro, syntax, notation, axiom, sorry.
-/
import Derived.Test.YtdokcengcekfgaaGreatDoorRows
import GoSem.ClaimSeven
namespace Go.Proofs.YtdokcengcekfgaaGreatDoor
namespace Rows

/-- THE TIED CARD OF 'laws.FnVersionsHistory'. -/
def fnVersionsHistoryCard : Claim7 := { stood := { row := fnVersionsHistoryRow, standIns := [], harness := (true, "04d5e24b57b692065134c7e35ae2924f3f8c588bf85f940d37096ff1cd6f6681"), looks := true }, kinds := [], alts := [], laidByText := true, laidKinds := [.data, .data, .data, .sentinel, .sentinel], laidTests := true, laidLooks := .later }
def FnVersionsHistoryCardSaid : Prop := Claim7.holds Tryz.pinned (.plain (OpenSpec.ofChange fnVersionsHistorySpec)) fnVersionsHistoryCard

/-- THE SECOND FORM's CARD OF 'laws.FnVersionsHistory'. -/
def fnVersionsHistoryUptoCard : Claim7 := { stood := { row := fnVersionsHistoryUptoRow, standIns := [], harness := (true, "04d5e24b57b692065134c7e35ae2924f3f8c588bf85f940d37096ff1cd6f6681"), looks := true }, kinds := [], alts := [], laidByText := true, laidKinds := [.data, .data, .data, .sentinel, .sentinel], laidTests := true, laidLooks := .later }
def FnVersionsHistoryUptoCardSaid : Prop := Claim7.holds Tryz.pinned (.plain (OpenSpec.upto fnVersionsHistorySpec)) fnVersionsHistoryUptoCard
end Rows
end Go.Proofs.YtdokcengcekfgaaGreatDoor
