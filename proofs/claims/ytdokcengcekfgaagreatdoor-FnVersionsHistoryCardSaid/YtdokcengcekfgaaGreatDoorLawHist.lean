/-
  FnVersionsHistory: over every history of at most 60 steps of a cluster, each decision of a monitor, and each downgrade that is enabled or cancelled, is the reference's (the card: over the library's variables as the program's text lays them). No condition beside the row's own.
-/
import Derived.Test.YtdokcengcekfgaaGreatDoorHistO
import Derived.Test.YtdokcengcekfgaaGreatDoorHistW
namespace Go.Proofs.YtdokcengcekfgaaGreatDoor
open Go.ChangeShapes Go.WideShapes Go.ChangeAt Go.RowKit
set_option linter.unusedSimpArgs false
set_option linter.unusedVariables false

abbrev wHist : Array Value := #[.agg #[.string ⟨#[]⟩, .string ⟨#[]⟩, .string ⟨#[]⟩, .bool false, .bool false, .slice none 0 0], .slice none 0 0]
theorem laidMet_Hist (os : Os) : laidMet Tryz.prog laidL ((laidWorld os).forCall (fun _ _ => 0) ⟨#[], wHist, []⟩).memory := laidMet_of_run' 8 (by kernel_rfl) (by kernel_rfl)
theorem reads_Hist (os : Os) {H : Type} (enc : TypeId × Value → H) : ∃ places, DataW.whole enc Tryz.prog ((laidWorld os).forCall (fun _ _ => 0) ⟨#[], wHist, []⟩).memory Tryz.f3.params.toList [] false wHist.toList 8 = some ([.agg [.lit (.string []), .lit (.string []), .lit (.string []), .lit (.bool false), .lit (.bool false), .nil], .nil], [], places) :=
  ⟨[], by kernel_rfl⟩
set_option maxRecDepth 100000 in
theorem said_Hist : Rows.FnVersionsHistorySaid :=
  OpenClaim.holds_of_cond 3 Tryz.f3 rfl rfl rfl rfl rfl rfl rfl ⟨rfl, rfl, rfl, rfl, rfl⟩ rfl rfl rfl rfl rfl (by kernel_rfl) Tryz.func3 (by kernel_rfl)
    (of_decide_eq_true (by kernel_rfl)) (by unfold Func.isWrapper; first | (rw [if_pos (by decide +kernel)]; kernel_rfl) | (rw [if_neg (by decide +kernel)]; exact ⟨rfl, rfl⟩))
    (fun os started H enc _ F => by
      rw [OpenClaim.pre_eq_preRow]
      obtain ⟨places, hx⟩ := reads_Hist os enc
      exact law_card 3 Tryz.f3 Rows.fnVersionsHistorySpec 4 wHist Tryz.func3 (by kernel_rfl) rfl
        (fun H ds h => by match ds, h with | [a, b], _ => rfl) (by kernel_rfl) Tryz.underlying4 (by decide +kernel) os started H enc F
        (witness_row_atRef (enc := enc) (C := Tryz.checked) false (laidWorld os) wHist rfl (by kernel_rfl) (by kernel_rfl) (by kernel_rfl)
          (OpenSpec.preRow_of_cond 8 hx (by kernel_rfl) (fun k hk => by cases hk) (by kernel_rfl) (laidMet_Hist os)))
        (fun W base args ds p hval hA hwt hw => by
          rw [Tryz.params3] at hA hval
          obtain ⟨v0, vs0, d0, ds0, p0, q0, hargs, rfl, rfl, h0, r0⟩ := trodAll_cons hA
          obtain ⟨v1, vs1, d1, ds1, p1, q1, rfl, rfl, rfl, h1, r1⟩ := trodAll_cons r0
          obtain ⟨rfl, rfl, rfl⟩ := trodAll_nil r1
          obtain rfl : args = #[v0, v1] := by cases args; simp_all
          obtain ⟨g0, A0, n0, cap0, rfl, hn0, hm0⟩ := gd_arg (hval 0 _ v0 rfl rfl) h0
          obtain ⟨a1, l1, c1, rfl⟩ := okWide_slice Tryz.underlying25 (hval 1 _ v1 rfl rfl)
          obtain ⟨f1, hf1⟩ := h1
          obtain ⟨xs1, hxs1⟩ := steps_opens enc W 0 _ true f1 _ _ hf1
          exact walk_VersionsHistory g0 A0 n0 cap0 xs1 _ W hn0 hm0 hxs1 hw))
theorem plain_Hist (f : FuncId) (fn : Func) (hf : Tryz.pinned.checked.prog.funcNamed "pub-vicegerent/laws.FnVersionsHistory" = some f) (hfn : Tryz.pinned.checked.prog.funcs[f]? = some fn) :
    true = Tryz.pinned.checked.prog.looks [] ∧ ∀ (j : Nat) t, fn.params[j]? = some t → Tryz.pinned.checked.prog.wantsStandIn t = false := by
  obtain rfl : f = 3 := Option.some.inj ((show Tryz.prog.funcNamed "pub-vicegerent/laws.FnVersionsHistory" = some 3 by kernel_rfl).symm.trans hf) |>.symm
  obtain rfl : fn = Tryz.f3 := (Option.some.inj (Tryz.func3.symm.trans hfn)).symm
  refine ⟨by kernel_rfl, fun j t ht => ?_⟩
  rw [Tryz.params3] at ht
  have hmem := Array.mem_of_getElem? ht
  simp only [List.mem_toArray, List.mem_cons, List.mem_nil_iff, or_false] at hmem
  rcases hmem with rfl | rfl
  · exact (show Tryz.prog.wantsStandIn 24 = false by kernel_rfl)
  · exact (show Tryz.prog.wantsStandIn 25 = false by kernel_rfl)
theorem FnVersionsHistory_holds : Rows.FnVersionsHistoryCardSaid :=
  Claim7.holds_tied_plain_at .later [] _ _ _ _ said_Hist (fun _ h => by cases h) (by kernel_rfl) (fun _ h => by cases h) fnVersionsHistory_row_tie rfl ⟨rfl, rfl⟩ (by kernel_rfl) rfl plain_Hist (by kernel_rfl)
#print axioms FnVersionsHistory_holds
end Go.Proofs.YtdokcengcekfgaaGreatDoor
