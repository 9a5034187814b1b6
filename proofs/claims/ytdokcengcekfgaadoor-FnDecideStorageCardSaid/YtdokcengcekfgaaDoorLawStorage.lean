/-
  FnDecideStorage: whatever a monitor of versions sees, it sets the storage's version just as the reference says (the card: over the library's variables as the program's text lays them). No condition beside the row's own.
-/
import Derived.Test.YtdokcengcekfgaaDoorCard
namespace Go.Proofs.YtdokcengcekfgaaDoor
open Go.ChangeShapes Go.WideShapes Go.ChangeAt Go.RowKit
set_option linter.unusedSimpArgs false
set_option linter.unusedVariables false

abbrev wStorage : Array Value := #[.agg #[.string ⟨#[]⟩, .string ⟨#[]⟩, .string ⟨#[]⟩, .bool false, .bool false, .slice none 0 0]]
theorem laidMet_Storage (os : Os) : laidMet Tryd.prog laidL ((laidWorld os).forCall (fun _ _ => 0) ⟨#[], wStorage, []⟩).memory := laidMet_of_run' 8 (by kernel_rfl) (by kernel_rfl)
theorem reads_Storage (os : Os) {H : Type} (enc : TypeId × Value → H) : ∃ places, DataW.whole enc Tryd.prog ((laidWorld os).forCall (fun _ _ => 0) ⟨#[], wStorage, []⟩).memory Tryd.f4.params.toList [] false wStorage.toList 8 = some ([.agg [.lit (.string []), .lit (.string []), .lit (.string []), .lit (.bool false), .lit (.bool false), .nil]], [], places) :=
  ⟨[], by kernel_rfl⟩
set_option maxRecDepth 100000 in
theorem said_Storage : Rows.FnDecideStorageSaid :=
  OpenClaim.holds_of_cond 4 Tryd.f4 rfl rfl rfl rfl rfl rfl rfl ⟨rfl, rfl, rfl, rfl, rfl⟩ rfl rfl rfl rfl rfl (by kernel_rfl) Tryd.func4 (by kernel_rfl)
    (of_decide_eq_true (by kernel_rfl)) (by unfold Func.isWrapper; first | (rw [if_pos (by decide +kernel)]; kernel_rfl) | (rw [if_neg (by decide +kernel)]; exact ⟨rfl, rfl⟩))
    (fun os started H enc _ F => by
      rw [OpenClaim.pre_eq_preRow]
      obtain ⟨places, hx⟩ := reads_Storage os enc
      exact law_card 4 Tryd.f4 Rows.fnDecideStorageSpec 4 wStorage Tryd.func4 (by kernel_rfl) rfl
        (fun H ds h => by match ds, h with | [a], _ => rfl) (by kernel_rfl) Tryd.underlying4 (by decide +kernel) os started H enc F
        (witness_row_atRef (enc := enc) (C := Tryd.checked) false (laidWorld os) wStorage rfl (by kernel_rfl) (by kernel_rfl) (by kernel_rfl)
          (OpenSpec.preRow_of_cond 8 hx (by kernel_rfl) (fun k hk => by cases hk) (by kernel_rfl) (laidMet_Storage os)))
        (fun W base args ds p hval hA hwt hw => by
          rw [Tryd.params4] at hA hval
          obtain ⟨v0, vs0, d0, ds0, p0, q0, hargs, rfl, rfl, h0, r0⟩ := trodAll_cons hA
          obtain ⟨rfl, rfl, rfl⟩ := trodAll_nil r0
          obtain rfl : args = #[v0] := by cases args; simp_all
          obtain ⟨g, A, n, cap, rfl, hn, hm⟩ := gd_arg (hval 0 _ v0 rfl rfl) h0
          exact walk_DecideStorage g A n cap W hn hm hw))
theorem plain_Storage (f : FuncId) (fn : Func) (hf : Tryd.pinned.checked.prog.funcNamed "pub-vicegerent/laws.FnDecideStorage" = some f) (hfn : Tryd.pinned.checked.prog.funcs[f]? = some fn) :
    true = Tryd.pinned.checked.prog.looks [] ∧ ∀ (j : Nat) t, fn.params[j]? = some t → Tryd.pinned.checked.prog.wantsStandIn t = false := by
  obtain rfl : f = 4 := Option.some.inj ((show Tryd.prog.funcNamed "pub-vicegerent/laws.FnDecideStorage" = some 4 by kernel_rfl).symm.trans hf) |>.symm
  obtain rfl : fn = Tryd.f4 := (Option.some.inj (Tryd.func4.symm.trans hfn)).symm
  refine ⟨by kernel_rfl, fun j t ht => ?_⟩
  rw [Tryd.params4] at ht
  have hmem := Array.mem_of_getElem? ht
  simp only [List.mem_toArray, List.mem_cons, List.mem_nil_iff, or_false] at hmem
  obtain rfl := hmem
  exact (show Tryd.prog.wantsStandIn 24 = false by kernel_rfl)
theorem FnDecideStorage_holds : Rows.FnDecideStorageCardSaid :=
  Claim7.holds_tied_plain_at .later [] _ _ _ _ said_Storage (fun _ h => by cases h) (by kernel_rfl) (fun _ h => by cases h) fnDecideStorage_row_tie rfl ⟨rfl, rfl⟩ (by kernel_rfl) rfl plain_Storage (by kernel_rfl)
#print axioms FnDecideStorage_holds
end Go.Proofs.YtdokcengcekfgaaDoor
