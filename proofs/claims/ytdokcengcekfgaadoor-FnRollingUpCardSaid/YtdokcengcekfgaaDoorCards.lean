/-
  DERIVED. GIVEN WITH THE SEED: THE CARDS: each row of YtdokcengcekfgaaDoorRows.lean that lists a variable, with what it lists TIED to the program's text (the seventh form; the later family's looks); each row that meets fmt, with fmt's text TOLD by the authors' own Lean function (tested against real Go, not proved from fmt's source: count such statements apart). THE CARD IS WHAT COUNTS. Prove the row's statement (the work); the ties are given (YtdokcengcekfgaaDoorTie.lean); close each card by the builder's one call (the guide's Derived/Test/ToyasCard.lean, 'card_holds'). Laid BY PROGRAM, IN A SANDBOX (cutbox-door.mjs). By AI agents, Wed Nov 11 2026. No macro, syntax, notation, axiom, sorry.
-/
import Derived.Test.YtdokcengcekfgaaDoorRows
import GoSem.ClaimSeven
namespace Go.Proofs.YtdokcengcekfgaaDoor
namespace Rows

/-- THE TIED CARD OF 'laws.FnDownValidate'. -/
def fnDownValidateCard : Claim7 := { stood := { row := fnDownValidateRow, standIns := [], harness := (true, "424e2220c9c04dc4b4923f0e6bb76f91703841b2ff27f34e2309be579559d2e8"), looks := true }, kinds := [], alts := [], laidByText := true, laidKinds := [.data, .data, .data, .sentinel, .sentinel], laidTests := true, laidLooks := .later }
def FnDownValidateCardSaid : Prop := Claim7.holds Tryd.pinned (.plain (OpenSpec.ofChange fnDownValidateSpec)) fnDownValidateCard

/-- THE TIED CARD OF 'laws.FnDecideStorage'. -/
def fnDecideStorageCard : Claim7 := { stood := { row := fnDecideStorageRow, standIns := [], harness := (true, "424e2220c9c04dc4b4923f0e6bb76f91703841b2ff27f34e2309be579559d2e8"), looks := true }, kinds := [], alts := [], laidByText := true, laidKinds := [.data, .data, .data, .sentinel, .sentinel], laidTests := true, laidLooks := .later }
def FnDecideStorageCardSaid : Prop := Claim7.holds Tryd.pinned (.plain (OpenSpec.ofChange fnDecideStorageSpec)) fnDecideStorageCard

/-- THE TIED CARD OF 'laws.FnRollingUp'. -/
def fnRollingUpCard : Claim7 := { stood := { row := fnRollingUpRow, standIns := [], harness := (true, "424e2220c9c04dc4b4923f0e6bb76f91703841b2ff27f34e2309be579559d2e8"), looks := true }, kinds := [], alts := [], laidByText := true, laidKinds := [.data, .data, .data, .sentinel, .sentinel], laidTests := true, laidLooks := .later }
def FnRollingUpCardSaid : Prop := Claim7.holds Tryd.pinned (.plain (OpenSpec.ofChange fnRollingUpSpec)) fnRollingUpCard

/-- THE TIED CARD OF 'laws.FnDecideOrder'. -/
def fnDecideOrderCard : Claim7 := { stood := { row := fnDecideOrderRow, standIns := [], harness := (true, "424e2220c9c04dc4b4923f0e6bb76f91703841b2ff27f34e2309be579559d2e8"), looks := true }, kinds := [], alts := [], laidByText := true, laidKinds := [.data, .data, .data, .sentinel, .sentinel], laidTests := true, laidLooks := .later }
def FnDecideOrderCardSaid : Prop := Claim7.holds Tryd.pinned (.plain (OpenSpec.ofChange fnDecideOrderSpec)) fnDecideOrderCard

/-- THE SECOND FORM's CARD OF 'laws.FnDownValidate'. -/
def fnDownValidateUptoCard : Claim7 := { stood := { row := fnDownValidateUptoRow, standIns := [], harness := (true, "424e2220c9c04dc4b4923f0e6bb76f91703841b2ff27f34e2309be579559d2e8"), looks := true }, kinds := [], alts := [], laidByText := true, laidKinds := [.data, .data, .data, .sentinel, .sentinel], laidTests := true, laidLooks := .later }
def FnDownValidateUptoCardSaid : Prop := Claim7.holds Tryd.pinned (.plain (OpenSpec.upto fnDownValidateSpec)) fnDownValidateUptoCard

/-- THE SECOND FORM's CARD OF 'laws.FnDecideStorage'. -/
def fnDecideStorageUptoCard : Claim7 := { stood := { row := fnDecideStorageUptoRow, standIns := [], harness := (true, "424e2220c9c04dc4b4923f0e6bb76f91703841b2ff27f34e2309be579559d2e8"), looks := true }, kinds := [], alts := [], laidByText := true, laidKinds := [.data, .data, .data, .sentinel, .sentinel], laidTests := true, laidLooks := .later }
def FnDecideStorageUptoCardSaid : Prop := Claim7.holds Tryd.pinned (.plain (OpenSpec.upto fnDecideStorageSpec)) fnDecideStorageUptoCard

/-- THE SECOND FORM's CARD OF 'laws.FnRollingUp'. -/
def fnRollingUpUptoCard : Claim7 := { stood := { row := fnRollingUpUptoRow, standIns := [], harness := (true, "424e2220c9c04dc4b4923f0e6bb76f91703841b2ff27f34e2309be579559d2e8"), looks := true }, kinds := [], alts := [], laidByText := true, laidKinds := [.data, .data, .data, .sentinel, .sentinel], laidTests := true, laidLooks := .later }
def FnRollingUpUptoCardSaid : Prop := Claim7.holds Tryd.pinned (.plain (OpenSpec.upto fnRollingUpSpec)) fnRollingUpUptoCard

/-- THE SECOND FORM's CARD OF 'laws.FnDecideOrder'. -/
def fnDecideOrderUptoCard : Claim7 := { stood := { row := fnDecideOrderUptoRow, standIns := [], harness := (true, "424e2220c9c04dc4b4923f0e6bb76f91703841b2ff27f34e2309be579559d2e8"), looks := true }, kinds := [], alts := [], laidByText := true, laidKinds := [.data, .data, .data, .sentinel, .sentinel], laidTests := true, laidLooks := .later }
def FnDecideOrderUptoCardSaid : Prop := Claim7.holds Tryd.pinned (.plain (OpenSpec.upto fnDecideOrderSpec)) fnDecideOrderUptoCard
end Rows
end Go.Proofs.YtdokcengcekfgaaDoor
