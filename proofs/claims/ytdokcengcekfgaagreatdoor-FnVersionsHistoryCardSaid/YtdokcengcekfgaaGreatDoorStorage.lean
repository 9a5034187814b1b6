/-
  The walk of FnDecideStorage.
-/
import Derived.Test.YtdokcengcekfgaaGreatDoorAwake
namespace Go.Proofs.YtdokcengcekfgaaGreatDoor
open Go.RowKit
set_option linter.unusedSimpArgs false
set_option linter.unusedVariables false

theorem gd_load {w : World} {b : Nat} {g : GD} {A : Option Addr} {n cap : Nat} (K : Blk w b 24 (gdCells g A n cap)) :
    w.cell? ⟨b, 0, none⟩ = some (.string g.cluster) ∧ w.cell? ⟨b, 1, none⟩ = some (.string g.storage) ∧ w.cell? ⟨b, 2, none⟩ = some (.string g.target) ∧ w.cell? ⟨b, 3, none⟩ = some (.bool g.down) ∧ w.cell? ⟨b, 4, none⟩ = some (.bool g.hasDown) ∧ w.cell? ⟨b, 5, none⟩ = some (.slice A n cap) :=
  ⟨K.cell rfl, K.cell rfl, K.cell rfl, K.cell rfl, K.cell rfl, K.cell rfl⟩
end Go.Proofs.YtdokcengcekfgaaGreatDoor
