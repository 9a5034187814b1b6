/-
  FnDownValidate: whatever a manager of versions sees, a downgrade is let through, and enabled, just as the reference says (the card: over the library's variables as the program's text lays them). No condition beside the row's own.
-/
import Derived.Test.YtdokcengcekfgaaDoorCard
import Derived.Test.YtdokcengcekfgaaDoorDownLaw
namespace Go.Proofs.YtdokcengcekfgaaDoor
open Go.ChangeShapes Go.WideShapes Go.ChangeAt Go.RowKit
set_option linter.unusedSimpArgs false
set_option linter.unusedVariables false

abbrev wDown : Array Value := #[.agg #[.string ⟨#[]⟩, .string ⟨#[]⟩, .string ⟨#[]⟩, .bool false, .bool false, .slice none 0 0], .agg #[.int .i64 0, .int .i64 0, .int .i64 0]]
theorem laidMet_Down (os : Os) : laidMet Tryd.prog laidL ((laidWorld os).forCall (fun _ _ => 0) ⟨#[], wDown, []⟩).memory := laidMet_of_run' 8 (by kernel_rfl) (by kernel_rfl)
theorem reads_Down (os : Os) {H : Type} (enc : TypeId × Value → H) : ∃ places, DataW.whole enc Tryd.prog ((laidWorld os).forCall (fun _ _ => 0) ⟨#[], wDown, []⟩).memory Tryd.f3.params.toList [] false wDown.toList 8 = some ([.agg [.lit (.string []), .lit (.string []), .lit (.string []), .lit (.bool false), .lit (.bool false), .nil], .agg [.lit (.int .i64 0), .lit (.int .i64 0), .lit (.int .i64 0)]], [], places) :=
  ⟨[], by kernel_rfl⟩
set_option maxRecDepth 100000 in
theorem said_Down : Rows.FnDownValidateSaid :=
  OpenClaim.holds_of_cond 3 Tryd.f3 rfl rfl rfl rfl rfl rfl rfl ⟨rfl, rfl, rfl, rfl, rfl⟩ rfl rfl rfl rfl rfl (by kernel_rfl) Tryd.func3 (by kernel_rfl)
    (of_decide_eq_true (by kernel_rfl)) (by unfold Func.isWrapper; first | (rw [if_pos (by decide +kernel)]; kernel_rfl) | (rw [if_neg (by decide +kernel)]; exact ⟨rfl, rfl⟩))
    (fun os started H enc _ F => by
      rw [OpenClaim.pre_eq_preRow]
      obtain ⟨places, hx⟩ := reads_Down os enc
      exact law_card 3 Tryd.f3 Rows.fnDownValidateSpec 4 wDown Tryd.func3 (by kernel_rfl) rfl
        (fun H ds h => by match ds, h with | [a, b], _ => rfl) (by kernel_rfl) Tryd.underlying4 (by decide +kernel) os started H enc F
        (witness_row_atRef (enc := enc) (C := Tryd.checked) false (laidWorld os) wDown rfl (by kernel_rfl) (by kernel_rfl) (by kernel_rfl)
          (OpenSpec.preRow_of_cond 8 hx (by kernel_rfl) (fun k hk => by cases hk) (by kernel_rfl) (laidMet_Down os)))
        (fun W base args ds p hval hA hwt hw => by
          rw [Tryd.params3] at hA hval
          obtain ⟨v0, vs0, d0, ds0, p0, q0, hargs, rfl, rfl, h0, r0⟩ := trodAll_cons hA
          obtain ⟨v1, vs1, d1, ds1, p1, q1, rfl, rfl, rfl, h1, r1⟩ := trodAll_cons r0
          obtain ⟨rfl, rfl, rfl⟩ := trodAll_nil r1
          obtain rfl : args = #[v0, v1] := by cases args; simp_all
          obtain ⟨g0, A0, n0, cap0, rfl, hn0, hm0⟩ := gd_arg (hval 0 _ v0 rfl rfl) h0
          obtain ⟨x1, rfl⟩ := ver_arg (hval 1 _ v1 rfl rfl) h1
          exact walk_DownValidate g0 A0 n0 cap0 x1 W hn0 hm0 hw))
theorem plain_Down (f : FuncId) (fn : Func) (hf : Tryd.pinned.checked.prog.funcNamed "pub-vicegerent/laws.FnDownValidate" = some f) (hfn : Tryd.pinned.checked.prog.funcs[f]? = some fn) :
    true = Tryd.pinned.checked.prog.looks [] ∧ ∀ (j : Nat) t, fn.params[j]? = some t → Tryd.pinned.checked.prog.wantsStandIn t = false := by
  obtain rfl : f = 3 := Option.some.inj ((show Tryd.prog.funcNamed "pub-vicegerent/laws.FnDownValidate" = some 3 by kernel_rfl).symm.trans hf) |>.symm
  obtain rfl : fn = Tryd.f3 := (Option.some.inj (Tryd.func3.symm.trans hfn)).symm
  refine ⟨by kernel_rfl, fun j t ht => ?_⟩
  rw [Tryd.params3] at ht
  have hmem := Array.mem_of_getElem? ht
  simp only [List.mem_toArray, List.mem_cons, List.mem_nil_iff, or_false] at hmem
  rcases hmem with rfl | rfl
  · exact (show Tryd.prog.wantsStandIn 24 = false by kernel_rfl)
  · exact (show Tryd.prog.wantsStandIn 26 = false by kernel_rfl)
theorem FnDownValidate_holds : Rows.FnDownValidateCardSaid :=
  Claim7.holds_tied_plain_at .later [] _ _ _ _ said_Down (fun _ h => by cases h) (by kernel_rfl) (fun _ h => by cases h) fnDownValidate_row_tie rfl ⟨rfl, rfl⟩ (by kernel_rfl) rfl plain_Down (by kernel_rfl)
#print axioms FnDownValidate_holds
end Go.Proofs.YtdokcengcekfgaaDoor
