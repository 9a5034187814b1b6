/-
  FnDecideOrder: in whatever order the members stand, and with one that stands there twice, the monitor decides the same (the card: over the library's variables as the program's text lays them). No condition beside the row's own.
-/
import Derived.Test.YtdokcengcekfgaaDoorCard
import Derived.Test.YtdokcengcekfgaaDoorOrder
namespace Go.Proofs.YtdokcengcekfgaaDoor
open Go.ChangeShapes Go.WideShapes Go.ChangeAt Go.RowKit
set_option linter.unusedSimpArgs false
set_option linter.unusedVariables false

abbrev wOrder : Array Value := #[.agg #[.string ⟨#[]⟩, .string ⟨#[]⟩, .string ⟨#[]⟩, .bool false, .bool false, .slice none 0 0], .int .i64 0]
theorem laidMet_Order (os : Os) : laidMet Tryd.prog laidL ((laidWorld os).forCall (fun _ _ => 0) ⟨#[], wOrder, []⟩).memory := laidMet_of_run' 8 (by kernel_rfl) (by kernel_rfl)
theorem reads_Order (os : Os) {H : Type} (enc : TypeId × Value → H) : ∃ places, DataW.whole enc Tryd.prog ((laidWorld os).forCall (fun _ _ => 0) ⟨#[], wOrder, []⟩).memory Tryd.f6.params.toList [] false wOrder.toList 8 = some ([.agg [.lit (.string []), .lit (.string []), .lit (.string []), .lit (.bool false), .lit (.bool false), .nil], .lit (.int .i64 0)], [], places) :=
  ⟨[], by kernel_rfl⟩
set_option maxRecDepth 100000 in
theorem said_Order : Rows.FnDecideOrderSaid :=
  OpenClaim.holds_of_cond 6 Tryd.f6 rfl rfl rfl rfl rfl rfl rfl ⟨rfl, rfl, rfl, rfl, rfl⟩ rfl rfl rfl rfl rfl (by kernel_rfl) Tryd.func6 (by kernel_rfl)
    (of_decide_eq_true (by kernel_rfl)) (by unfold Func.isWrapper; first | (rw [if_pos (by decide +kernel)]; kernel_rfl) | (rw [if_neg (by decide +kernel)]; exact ⟨rfl, rfl⟩))
    (fun os started H enc _ F => by
      rw [OpenClaim.pre_eq_preRow]
      obtain ⟨places, hx⟩ := reads_Order os enc
      exact law_card 6 Tryd.f6 Rows.fnDecideOrderSpec 4 wOrder Tryd.func6 (by kernel_rfl) rfl
        (fun H ds h => by match ds, h with | [a, b], _ => rfl) (by kernel_rfl) Tryd.underlying4 (by decide +kernel) os started H enc F
        (witness_row_atRef (enc := enc) (C := Tryd.checked) false (laidWorld os) wOrder rfl (by kernel_rfl) (by kernel_rfl) (by kernel_rfl)
          (OpenSpec.preRow_of_cond 8 hx (by kernel_rfl) (fun k hk => by cases hk) (by kernel_rfl) (laidMet_Order os)))
        (fun W base args ds p hval hA hwt hw => by
          rw [Tryd.params6] at hA hval
          obtain ⟨v0, vs0, d0, ds0, p0, q0, hargs, rfl, rfl, h0, r0⟩ := trodAll_cons hA
          obtain ⟨v1, vs1, d1, ds1, p1, q1, rfl, rfl, rfl, h1, r1⟩ := trodAll_cons r0
          obtain ⟨rfl, rfl, rfl⟩ := trodAll_nil r1
          obtain rfl : args = #[v0, v1] := by cases args; simp_all
          obtain ⟨g0, A0, n0, cap0, rfl, hn0, hm0⟩ := gd_arg (hval 0 _ v0 rfl rfl) h0
          obtain ⟨n1, rfl, rfl, rfl, w1⟩ := open_int Tryd.underlying3 (hval 1 _ v1 rfl rfl) h1
          exact walk_DecideOrder g0 A0 n0 cap0 n1 W hn0 hm0 w1 hw))
theorem plain_Order (f : FuncId) (fn : Func) (hf : Tryd.pinned.checked.prog.funcNamed "pub-vicegerent/laws.FnDecideOrder" = some f) (hfn : Tryd.pinned.checked.prog.funcs[f]? = some fn) :
    true = Tryd.pinned.checked.prog.looks [] ∧ ∀ (j : Nat) t, fn.params[j]? = some t → Tryd.pinned.checked.prog.wantsStandIn t = false := by
  obtain rfl : f = 6 := Option.some.inj ((show Tryd.prog.funcNamed "pub-vicegerent/laws.FnDecideOrder" = some 6 by kernel_rfl).symm.trans hf) |>.symm
  obtain rfl : fn = Tryd.f6 := (Option.some.inj (Tryd.func6.symm.trans hfn)).symm
  refine ⟨by kernel_rfl, fun j t ht => ?_⟩
  rw [Tryd.params6] at ht
  have hmem := Array.mem_of_getElem? ht
  simp only [List.mem_toArray, List.mem_cons, List.mem_nil_iff, or_false] at hmem
  rcases hmem with rfl | rfl
  · exact (show Tryd.prog.wantsStandIn 24 = false by kernel_rfl)
  · exact (show Tryd.prog.wantsStandIn 3 = false by kernel_rfl)
theorem FnDecideOrder_holds : Rows.FnDecideOrderCardSaid :=
  Claim7.holds_tied_plain_at .later [] _ _ _ _ said_Order (fun _ h => by cases h) (by kernel_rfl) (fun _ h => by cases h) fnDecideOrder_row_tie rfl ⟨rfl, rfl⟩ (by kernel_rfl) rfl plain_Order (by kernel_rfl)
#print axioms FnDecideOrder_holds
end Go.Proofs.YtdokcengcekfgaaDoor
