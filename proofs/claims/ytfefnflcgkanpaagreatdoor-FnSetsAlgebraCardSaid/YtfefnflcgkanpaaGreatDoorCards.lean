/-
  DERIVED. GIVEN WITH THE SEED: THE CARDS: each row of YtfefnflcgkanpaaGreatDoorRows.lean that lists a variable, with what it lists TIED to the program's text (the seventh form; the later family's looks); each row that meets fmt, with fmt's text TOLD by the authors' own Lean function (tested against real Go, not proved from fmt's source: count such statements apart). THE CARD IS WHAT COUNTS. Prove the row's statement (the work); the ties are given (YtfefnflcgkanpaaGreatDoorTie.lean); close each card by the builder's one call (the guide's Derived/Test/ToyasCard.lean, 'card_holds'). Laid BY PROGRAM, IN A SANDBOX (cutbox-door.mjs). By AI agents, Wed Nov 11 2026. No macro, syntax, notation, axiom, sorry.
-/
import Derived.Test.YtfefnflcgkanpaaGreatDoorRows
import GoSem.ClaimSeven
namespace Go.Proofs.YtfefnflcgkanpaaGreatDoor
namespace Rows

/-- THE TIED CARD OF 'laws.FnSetsAlgebra'. -/
def fnSetsAlgebraCard : Claim7 := { stood := { row := fnSetsAlgebraRow, standIns := [], harness := (true, "902f9a98b35dada3c04e2397ce258478721929a28696acead648e00c59d7cb58"), looks := true }, kinds := [], alts := [], laidByText := true, laidKinds := [.data, .data, .data, .sentinel, .sentinel, .sentinel], laidTests := true, laidLooks := .later }
def FnSetsAlgebraCardSaid : Prop := Claim7.holds Tryz.pinned (.plain (OpenSpec.ofChange fnSetsAlgebraSpec)) fnSetsAlgebraCard

/-- THE SECOND FORM's CARD OF 'laws.FnSetsAlgebra'. -/
def fnSetsAlgebraUptoCard : Claim7 := { stood := { row := fnSetsAlgebraUptoRow, standIns := [], harness := (true, "902f9a98b35dada3c04e2397ce258478721929a28696acead648e00c59d7cb58"), looks := true }, kinds := [], alts := [], laidByText := true, laidKinds := [.data, .data, .data, .sentinel, .sentinel, .sentinel], laidTests := true, laidLooks := .later }
def FnSetsAlgebraUptoCardSaid : Prop := Claim7.holds Tryz.pinned (.plain (OpenSpec.upto fnSetsAlgebraSpec)) fnSetsAlgebraUptoCard
end Rows
end Go.Proofs.YtfefnflcgkanpaaGreatDoor
