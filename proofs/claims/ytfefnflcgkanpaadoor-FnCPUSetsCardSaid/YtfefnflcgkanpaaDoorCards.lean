/-
  DERIVED. GIVEN WITH THE SEED: THE CARDS: each row of YtfefnflcgkanpaaDoorRows.lean that lists a variable, with what it lists TIED to the program's text (the seventh form; the later family's looks); each row that meets fmt, with fmt's text TOLD by the authors' own Lean function (tested against real Go, not proved from fmt's source: count such statements apart). THE CARD IS WHAT COUNTS. Prove the row's statement (the work); the ties are given (YtfefnflcgkanpaaDoorTie.lean); close each card by the builder's one call (the guide's Derived/Test/ToyasCard.lean, 'card_holds'). Laid BY PROGRAM, IN A SANDBOX (cutbox-door.mjs). By AI agents, Wed Nov 11 2026. No macro, syntax, notation, axiom, sorry.
-/
import Derived.Test.YtfefnflcgkanpaaDoorRows
import GoSem.ClaimSeven
namespace Go.Proofs.YtfefnflcgkanpaaDoor
namespace Rows

/-- THE TIED CARD OF 'laws.FnCPUText'. -/
def fnCPUTextCard : Claim7 := { stood := { row := fnCPUTextRow, standIns := [], harness := (true, "188a88f285bc65dac604f1eae03a223b4af78a648db0c2ecc9b2d5a501752eef"), looks := true }, kinds := [], alts := [], laidByText := true, laidKinds := [.data, .data, .data, .sentinel, .sentinel, .sentinel], laidTests := true, laidLooks := .later }
def FnCPUTextCardSaid : Prop := Claim7.holds Tryd.pinned (.plain (OpenSpec.ofChange fnCPUTextSpec)) fnCPUTextCard

/-- THE TIED CARD OF 'laws.FnCPUSets'. -/
def fnCPUSetsCard : Claim7 := { stood := { row := fnCPUSetsRow, standIns := [], harness := (true, "188a88f285bc65dac604f1eae03a223b4af78a648db0c2ecc9b2d5a501752eef"), looks := true }, kinds := [], alts := [], laidByText := true, laidKinds := [.data, .data, .data, .sentinel, .sentinel, .sentinel], laidTests := true, laidLooks := .later }
def FnCPUSetsCardSaid : Prop := Claim7.holds Tryd.pinned (.plain (OpenSpec.ofChange fnCPUSetsSpec)) fnCPUSetsCard

/-- THE SECOND FORM's CARD OF 'laws.FnCPUText'. -/
def fnCPUTextUptoCard : Claim7 := { stood := { row := fnCPUTextUptoRow, standIns := [], harness := (true, "188a88f285bc65dac604f1eae03a223b4af78a648db0c2ecc9b2d5a501752eef"), looks := true }, kinds := [], alts := [], laidByText := true, laidKinds := [.data, .data, .data, .sentinel, .sentinel, .sentinel], laidTests := true, laidLooks := .later }
def FnCPUTextUptoCardSaid : Prop := Claim7.holds Tryd.pinned (.plain (OpenSpec.upto fnCPUTextSpec)) fnCPUTextUptoCard

/-- THE SECOND FORM's CARD OF 'laws.FnCPUSets'. -/
def fnCPUSetsUptoCard : Claim7 := { stood := { row := fnCPUSetsUptoRow, standIns := [], harness := (true, "188a88f285bc65dac604f1eae03a223b4af78a648db0c2ecc9b2d5a501752eef"), looks := true }, kinds := [], alts := [], laidByText := true, laidKinds := [.data, .data, .data, .sentinel, .sentinel, .sentinel], laidTests := true, laidLooks := .later }
def FnCPUSetsUptoCardSaid : Prop := Claim7.holds Tryd.pinned (.plain (OpenSpec.upto fnCPUSetsSpec)) fnCPUSetsUptoCard
end Rows
end Go.Proofs.YtfefnflcgkanpaaDoor
