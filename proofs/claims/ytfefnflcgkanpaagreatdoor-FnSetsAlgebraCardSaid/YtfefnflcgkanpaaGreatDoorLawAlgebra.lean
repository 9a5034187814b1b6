/-
  FnSetsAlgebra: the laws of sets: union and intersection do not hang on the order; what is in just one of two sets is the union without the intersection; a difference and an intersection make the whole; sizes add up; and a superset is told as one just if the union is it (the card: over the library's variables as the program's text lays them). No condition beside the row's own.
-/
import Derived.Test.YtfefnflcgkanpaaGreatDoorSm
import Derived.Test.YtfefnflcgkanpaaGreatDoorTh
namespace Go.Proofs.YtfefnflcgkanpaaGreatDoor
open Go.ChangeShapes Go.WideShapes Go.ChangeAt Go.RowKit
set_option linter.unusedSimpArgs false
set_option linter.unusedVariables false

abbrev wAlgebra : Array Value := #[.slice none 0 0, .slice none 0 0, .slice none 0 0]
theorem laidMet_Algebra (os : Os) : laidMet Tryz.prog laidL ((laidWorld os).forCall (fun _ _ => 0) ⟨#[], wAlgebra, []⟩).memory := laidMet_of_run' 8 (by kernel_rfl) (by kernel_rfl)
theorem reads_Algebra (os : Os) {H : Type} (enc : TypeId × Value → H) : ∃ places, DataW.whole enc Tryz.prog ((laidWorld os).forCall (fun _ _ => 0) ⟨#[], wAlgebra, []⟩).memory Tryz.f3.params.toList [] false wAlgebra.toList 8 = some ([.nil, .nil, .nil], [], places) :=
  ⟨[], by kernel_rfl⟩
set_option maxRecDepth 100000 in
theorem said_Algebra : Rows.FnSetsAlgebraSaid :=
  OpenClaim.holds_of_cond 3 Tryz.f3 rfl rfl rfl rfl rfl rfl rfl ⟨rfl, rfl, rfl, rfl, rfl⟩ rfl rfl rfl rfl rfl (by kernel_rfl) Tryz.func3 (by kernel_rfl)
    (of_decide_eq_true (by kernel_rfl)) (by unfold Func.isWrapper; first | (rw [if_pos (by decide +kernel)]; kernel_rfl) | (rw [if_neg (by decide +kernel)]; exact ⟨rfl, rfl⟩))
    (fun os started H enc _ F => by
      rw [OpenClaim.pre_eq_preRow]
      obtain ⟨places, hx⟩ := reads_Algebra os enc
      exact law_card 3 Tryz.f3 Rows.fnSetsAlgebraSpec 4 wAlgebra Tryz.func3 (by kernel_rfl) rfl
        (fun H ds h => by match ds, h with | [a, b, c], _ => rfl) (by kernel_rfl) Tryz.underlying4 (by decide +kernel) os started H enc F
        (witness_row_atRef (enc := enc) (C := Tryz.checked) false (laidWorld os) wAlgebra rfl (by kernel_rfl) (by kernel_rfl) (by kernel_rfl)
          (OpenSpec.preRow_of_cond 8 hx (by kernel_rfl) (fun k hk => by cases hk) (by kernel_rfl) (laidMet_Algebra os)))
        (fun W base args ds p hval hA hwt hw => by
          rw [Tryz.params3] at hA hval
          obtain ⟨v0, vs0, d0, ds0, p0, q0, hargs, rfl, rfl, h0, r0⟩ := trodAll_cons hA
          obtain ⟨v1, vs1, d1, ds1, p1, q1, rfl, rfl, rfl, h1, r1⟩ := trodAll_cons r0
          obtain ⟨v2, vs2, d2, ds2, p2, q2, rfl, rfl, rfl, h2, r2⟩ := trodAll_cons r1
          obtain ⟨rfl, rfl, rfl⟩ := trodAll_nil r2
          obtain rfl : args = #[v0, v1, v2] := by cases args; simp_all
          obtain ⟨a0, l0, c0, rfl⟩ := okWide_slice Tryz.underlying22 (hval 0 _ v0 rfl rfl)
          obtain ⟨f0, hf0⟩ := h0
          obtain ⟨xs0, hxs0⟩ := ints_opens enc W 0 _ true f0 _ _ hf0
          obtain ⟨a1, l1, c1, rfl⟩ := okWide_slice Tryz.underlying22 (hval 1 _ v1 rfl rfl)
          obtain ⟨f1, hf1⟩ := h1
          obtain ⟨xs1, hxs1⟩ := ints_opens enc W 0 _ true f1 _ _ hf1
          obtain ⟨a2, l2, c2, rfl⟩ := okWide_slice Tryz.underlying22 (hval 2 _ v2 rfl rfl)
          obtain ⟨f2, hf2⟩ := h2
          obtain ⟨xs2, hxs2⟩ := ints_opens enc W 0 _ true f2 _ _ hf2
          exact walk_SetsAlgebra xs0 _ xs1 _ xs2 _ W hxs0 hxs1 hxs2 hw))
theorem plain_Algebra (f : FuncId) (fn : Func) (hf : Tryz.pinned.checked.prog.funcNamed "pub-vicegerent/laws.FnSetsAlgebra" = some f) (hfn : Tryz.pinned.checked.prog.funcs[f]? = some fn) :
    true = Tryz.pinned.checked.prog.looks [] ∧ ∀ (j : Nat) t, fn.params[j]? = some t → Tryz.pinned.checked.prog.wantsStandIn t = false := by
  obtain rfl : f = 3 := Option.some.inj ((show Tryz.prog.funcNamed "pub-vicegerent/laws.FnSetsAlgebra" = some 3 by kernel_rfl).symm.trans hf) |>.symm
  obtain rfl : fn = Tryz.f3 := (Option.some.inj (Tryz.func3.symm.trans hfn)).symm
  refine ⟨by kernel_rfl, fun j t ht => ?_⟩
  rw [Tryz.params3] at ht
  have hmem := Array.mem_of_getElem? ht
  simp only [List.mem_toArray, List.mem_cons, List.mem_nil_iff, or_false] at hmem
  rcases hmem with rfl | rfl | rfl
  · exact (show Tryz.prog.wantsStandIn 22 = false by kernel_rfl)
  · exact (show Tryz.prog.wantsStandIn 22 = false by kernel_rfl)
  · exact (show Tryz.prog.wantsStandIn 22 = false by kernel_rfl)
theorem FnSetsAlgebra_holds : Rows.FnSetsAlgebraCardSaid :=
  Claim7.holds_tied_plain_at .later [] _ _ _ _ said_Algebra (fun _ h => by cases h) (by kernel_rfl) (fun _ h => by cases h) fnSetsAlgebra_row_tie rfl ⟨rfl, rfl⟩ (by kernel_rfl) rfl plain_Algebra (by kernel_rfl)
#print axioms FnSetsAlgebra_holds
end Go.Proofs.YtfefnflcgkanpaaGreatDoor
