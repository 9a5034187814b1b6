/-
  FnCPUSets: union, intersection and difference of two sets of processors have just the elements that they should, rising; equality, subsets and membership are told (the card: over the library's variables as the program's text lays them). No condition beside the row's own.
-/
import Derived.Test.YtfefnflcgkanpaaDoorSm
import Derived.Test.YtfefnflcgkanpaaDoorSo
namespace Go.Proofs.YtfefnflcgkanpaaDoor
open Go.ChangeShapes Go.WideShapes Go.ChangeAt Go.RowKit
set_option linter.unusedSimpArgs false
set_option linter.unusedVariables false

abbrev wSets : Array Value := #[.int .i64 0, .slice none 0 0, .slice none 0 0]
theorem laidMet_Sets (os : Os) : laidMet Tryd.prog laidL ((laidWorld os).forCall (fun _ _ => 0) ⟨#[], wSets, []⟩).memory := laidMet_of_run' 8 (by kernel_rfl) (by kernel_rfl)
theorem reads_Sets (os : Os) {H : Type} (enc : TypeId × Value → H) : ∃ places, DataW.whole enc Tryd.prog ((laidWorld os).forCall (fun _ _ => 0) ⟨#[], wSets, []⟩).memory Tryd.f4.params.toList [] false wSets.toList 8 = some ([.lit (.int .i64 0), .nil, .nil], [], places) :=
  ⟨[], by kernel_rfl⟩
set_option maxRecDepth 100000 in
theorem said_Sets : Rows.FnCPUSetsSaid :=
  OpenClaim.holds_of_cond 4 Tryd.f4 rfl rfl rfl rfl rfl rfl rfl ⟨rfl, rfl, rfl, rfl, rfl⟩ rfl rfl rfl rfl rfl (by kernel_rfl) Tryd.func4 (by kernel_rfl)
    (of_decide_eq_true (by kernel_rfl)) (by unfold Func.isWrapper; first | (rw [if_pos (by decide +kernel)]; kernel_rfl) | (rw [if_neg (by decide +kernel)]; exact ⟨rfl, rfl⟩))
    (fun os started H enc _ F => by
      rw [OpenClaim.pre_eq_preRow]
      obtain ⟨places, hx⟩ := reads_Sets os enc
      exact law_card 4 Tryd.f4 Rows.fnCPUSetsSpec 4 wSets Tryd.func4 (by kernel_rfl) rfl
        (fun H ds h => by match ds, h with | [a, b, c], _ => rfl) (by kernel_rfl) Tryd.underlying4 (by decide +kernel) os started H enc F
        (witness_row_atRef (enc := enc) (C := Tryd.checked) false (laidWorld os) wSets rfl (by kernel_rfl) (by kernel_rfl) (by kernel_rfl)
          (OpenSpec.preRow_of_cond 8 hx (by kernel_rfl) (fun k hk => by cases hk) (by kernel_rfl) (laidMet_Sets os)))
        (fun W base args ds p hval hA hwt hw => by
          rw [Tryd.params4] at hA hval
          obtain ⟨v0, vs0, d0, ds0, p0, q0, hargs, rfl, rfl, h0, r0⟩ := trodAll_cons hA
          obtain ⟨v1, vs1, d1, ds1, p1, q1, rfl, rfl, rfl, h1, r1⟩ := trodAll_cons r0
          obtain ⟨v2, vs2, d2, ds2, p2, q2, rfl, rfl, rfl, h2, r2⟩ := trodAll_cons r1
          obtain ⟨rfl, rfl, rfl⟩ := trodAll_nil r2
          obtain rfl : args = #[v0, v1, v2] := by cases args; simp_all
          obtain ⟨n0, rfl, rfl, rfl, w0⟩ := open_int Tryd.underlying3 (hval 0 _ v0 rfl rfl) h0
          obtain ⟨a1, l1, c1, rfl⟩ := okWide_slice Tryd.underlying22 (hval 1 _ v1 rfl rfl)
          obtain ⟨f1, hf1⟩ := h1
          obtain ⟨xs1, hxs1⟩ := ints_opens enc W 0 _ true f1 _ _ hf1
          obtain ⟨a2, l2, c2, rfl⟩ := okWide_slice Tryd.underlying22 (hval 2 _ v2 rfl rfl)
          obtain ⟨f2, hf2⟩ := h2
          obtain ⟨xs2, hxs2⟩ := ints_opens enc W 0 _ true f2 _ _ hf2
          exact walk_CPUSets n0 xs1 _ xs2 _ W hxs1 hxs2 hw))
theorem plain_Sets (f : FuncId) (fn : Func) (hf : Tryd.pinned.checked.prog.funcNamed "pub-vicegerent/laws.FnCPUSets" = some f) (hfn : Tryd.pinned.checked.prog.funcs[f]? = some fn) :
    true = Tryd.pinned.checked.prog.looks [] ∧ ∀ (j : Nat) t, fn.params[j]? = some t → Tryd.pinned.checked.prog.wantsStandIn t = false := by
  obtain rfl : f = 4 := Option.some.inj ((show Tryd.prog.funcNamed "pub-vicegerent/laws.FnCPUSets" = some 4 by kernel_rfl).symm.trans hf) |>.symm
  obtain rfl : fn = Tryd.f4 := (Option.some.inj (Tryd.func4.symm.trans hfn)).symm
  refine ⟨by kernel_rfl, fun j t ht => ?_⟩
  rw [Tryd.params4] at ht
  have hmem := Array.mem_of_getElem? ht
  simp only [List.mem_toArray, List.mem_cons, List.mem_nil_iff, or_false] at hmem
  rcases hmem with rfl | rfl | rfl
  · exact (show Tryd.prog.wantsStandIn 3 = false by kernel_rfl)
  · exact (show Tryd.prog.wantsStandIn 22 = false by kernel_rfl)
  · exact (show Tryd.prog.wantsStandIn 22 = false by kernel_rfl)
theorem FnCPUSets_holds : Rows.FnCPUSetsCardSaid :=
  Claim7.holds_tied_plain_at .later [] _ _ _ _ said_Sets (fun _ h => by cases h) (by kernel_rfl) (fun _ h => by cases h) fnCPUSets_row_tie rfl ⟨rfl, rfl⟩ (by kernel_rfl) rfl plain_Sets (by kernel_rfl)
#print axioms FnCPUSets_holds
end Go.Proofs.YtfefnflcgkanpaaDoor
