/-
  FnCPUText: a set of processors is written as its numbers in order, neighbours as a range, in whatever order, and however often, they are given (the card: over the library's variables as the program's text lays them). No condition beside the row's own.
-/
import Derived.Test.YtfefnflcgkanpaaDoorSm
import Derived.Test.YtfefnflcgkanpaaDoorSl
namespace Go.Proofs.YtfefnflcgkanpaaDoor
open Go.ChangeShapes Go.WideShapes Go.ChangeAt Go.RowKit
set_option linter.unusedSimpArgs false
set_option linter.unusedVariables false

abbrev wText : Array Value := #[.slice none 0 0]
theorem laidMet_Text (os : Os) : laidMet Tryd.prog laidL ((laidWorld os).forCall (fun _ _ => 0) ⟨#[], wText, []⟩).memory := laidMet_of_run' 8 (by kernel_rfl) (by kernel_rfl)
theorem reads_Text (os : Os) {H : Type} (enc : TypeId × Value → H) : ∃ places, DataW.whole enc Tryd.prog ((laidWorld os).forCall (fun _ _ => 0) ⟨#[], wText, []⟩).memory Tryd.f3.params.toList [] false wText.toList 8 = some ([.nil], [], places) :=
  ⟨[], by kernel_rfl⟩
set_option maxRecDepth 100000 in
theorem said_Text : Rows.FnCPUTextSaid :=
  OpenClaim.holds_of_cond 3 Tryd.f3 rfl rfl rfl rfl rfl rfl rfl ⟨rfl, rfl, rfl, rfl, rfl⟩ rfl rfl rfl rfl rfl (by kernel_rfl) Tryd.func3 (by kernel_rfl)
    (of_decide_eq_true (by kernel_rfl)) (by unfold Func.isWrapper; first | (rw [if_pos (by decide +kernel)]; kernel_rfl) | (rw [if_neg (by decide +kernel)]; exact ⟨rfl, rfl⟩))
    (fun os started H enc _ F => by
      rw [OpenClaim.pre_eq_preRow]
      obtain ⟨places, hx⟩ := reads_Text os enc
      exact law_card 3 Tryd.f3 Rows.fnCPUTextSpec 4 wText Tryd.func3 (by kernel_rfl) rfl
        (fun H ds h => by match ds, h with | [a], _ => rfl) (by kernel_rfl) Tryd.underlying4 (by decide +kernel) os started H enc F
        (witness_row_atRef (enc := enc) (C := Tryd.checked) false (laidWorld os) wText rfl (by kernel_rfl) (by kernel_rfl) (by kernel_rfl)
          (OpenSpec.preRow_of_cond 8 hx (by kernel_rfl) (fun k hk => by cases hk) (by kernel_rfl) (laidMet_Text os)))
        (fun W base args ds p hval hA hwt hw => by
          rw [Tryd.params3] at hA hval
          obtain ⟨v0, vs0, d0, ds0, p0, q0, hargs, rfl, rfl, h0, r0⟩ := trodAll_cons hA
          obtain ⟨rfl, rfl, rfl⟩ := trodAll_nil r0
          obtain rfl : args = #[v0] := by cases args; simp_all
          obtain ⟨a0, l0, c0, rfl⟩ := okWide_slice Tryd.underlying22 (hval 0 _ v0 rfl rfl)
          obtain ⟨f0, hf0⟩ := h0
          obtain ⟨xs0, hxs0⟩ := ints_opens enc W 0 _ true f0 _ _ hf0
          exact walk_CPUText xs0 _ W hxs0 hw))
theorem plain_Text (f : FuncId) (fn : Func) (hf : Tryd.pinned.checked.prog.funcNamed "pub-vicegerent/laws.FnCPUText" = some f) (hfn : Tryd.pinned.checked.prog.funcs[f]? = some fn) :
    true = Tryd.pinned.checked.prog.looks [] ∧ ∀ (j : Nat) t, fn.params[j]? = some t → Tryd.pinned.checked.prog.wantsStandIn t = false := by
  obtain rfl : f = 3 := Option.some.inj ((show Tryd.prog.funcNamed "pub-vicegerent/laws.FnCPUText" = some 3 by kernel_rfl).symm.trans hf) |>.symm
  obtain rfl : fn = Tryd.f3 := (Option.some.inj (Tryd.func3.symm.trans hfn)).symm
  refine ⟨by kernel_rfl, fun j t ht => ?_⟩
  rw [Tryd.params3] at ht
  have hmem := Array.mem_of_getElem? ht
  simp only [List.mem_toArray, List.mem_cons, List.mem_nil_iff, or_false] at hmem
  obtain rfl := hmem
  exact (show Tryd.prog.wantsStandIn 22 = false by kernel_rfl)
theorem FnCPUText_holds : Rows.FnCPUTextCardSaid :=
  Claim7.holds_tied_plain_at .later [] _ _ _ _ said_Text (fun _ h => by cases h) (by kernel_rfl) (fun _ h => by cases h) fnCPUText_row_tie rfl ⟨rfl, rfl⟩ (by kernel_rfl) rfl plain_Text (by kernel_rfl)
#print axioms FnCPUText_holds
end Go.Proofs.YtfefnflcgkanpaaDoor
