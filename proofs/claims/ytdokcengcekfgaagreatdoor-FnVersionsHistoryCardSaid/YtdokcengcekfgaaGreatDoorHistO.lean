/-
  A history's steps, opened.
-/
import Derived.Test.YtdokcengcekfgaaGreatDoorCard
import Derived.Test.YtdokcengcekfgaaGreatDoorHist
namespace Go.Proofs.YtdokcengcekfgaaGreatDoor
open Go.ChangeShapes Go.WideShapes Go.ChangeAt Go.RowKit
set_option linter.unusedSimpArgs false
set_option linter.unusedVariables false

set_option maxRecDepth 100000 in
theorem step_opens0 : Opens Tryz.prog 31 ((Rp.int .i64).pair ((Rp.int .i64).pair (Rp.str.pair ((Rp.int .i64).pair ((Rp.int .i64).pair (Rp.int .i64)))))) :=
  Opens.struct Tryz.underlying31 (by kernel_rfl) (OpensF.cons rfl (by kernel_rfl) (Opens.int Tryz.underlying3) (OpensF.cons rfl (by kernel_rfl) (Opens.int Tryz.underlying3) (OpensF.cons rfl (by kernel_rfl) (Opens.str Tryz.underlying9)
    (OpensF.one rfl (by kernel_rfl) ver_opens))))
theorem step_opens : Opens Tryz.prog 31 Rp.step := fun enc w base sp held fuel cs x hx => by
  obtain ⟨⟨k, m, t, a, b, c⟩, c1, _, rfl, ⟨rfl, _⟩, c2, _, rfl, ⟨rfl, _⟩, c3, _, rfl, ⟨rfl, ht⟩, c4, _, rfl, ⟨rfl, _⟩, c5, c6, rfl, ⟨rfl, _⟩, h6⟩ := step_opens0 enc w base sp held fuel cs x hx
  obtain ⟨rfl, _⟩ : c6 = [.int .i64 c] ∧ _ := h6
  exact ⟨⟨k, m, t, ⟨a, b, c⟩⟩, rfl, ht⟩
theorem steps_opens : Opens Tryz.prog 25 (Rp.slice Rp.step) :=
  Opens.slice Tryz.underlying25 (by kernel_rfl) (by decide) step_opens
end Go.Proofs.YtdokcengcekfgaaGreatDoor
