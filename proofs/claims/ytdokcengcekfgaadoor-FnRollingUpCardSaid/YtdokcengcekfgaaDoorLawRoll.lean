/-
  FnRollingUp: of a cluster whose members are replaced one by one by ones of the next minor, the cluster's and the storage's version stay until the last one was replaced, and then are the next one (the card: over the library's variables as the program's text lays them). No condition beside the row's own.
-/
import Derived.Test.YtdokcengcekfgaaDoorCard
import Derived.Test.YtdokcengcekfgaaDoorRoll
namespace Go.Proofs.YtdokcengcekfgaaDoor
open Go.ChangeShapes Go.WideShapes Go.ChangeAt Go.RowKit
set_option linter.unusedSimpArgs false
set_option linter.unusedVariables false

set_option maxRecDepth 100000 in
theorem ints_opens : Opens Tryd.prog 35 (Rp.slice (Rp.int .i64)) := Opens.slice Tryd.underlying35 (by kernel_rfl) (by decide) (Opens.int Tryd.underlying3)
set_option maxRecDepth 100000 in
theorem int64s_opens : Opens Tryd.prog 36 (Rp.slice (Rp.int .i64)) := Opens.slice Tryd.underlying36 (by kernel_rfl) (by decide) (Opens.int Tryd.underlying2)
abbrev wRoll : Array Value := #[.int .i64 0, .int .i64 0, .slice none 0 0, .slice none 0 0]
theorem laidMet_Roll (os : Os) : laidMet Tryd.prog laidL ((laidWorld os).forCall (fun _ _ => 0) ⟨#[], wRoll, []⟩).memory := laidMet_of_run' 8 (by kernel_rfl) (by kernel_rfl)
theorem reads_Roll (os : Os) {H : Type} (enc : TypeId × Value → H) : ∃ places, DataW.whole enc Tryd.prog ((laidWorld os).forCall (fun _ _ => 0) ⟨#[], wRoll, []⟩).memory Tryd.f5.params.toList [] false wRoll.toList 8 = some ([.lit (.int .i64 0), .lit (.int .i64 0), .nil, .nil], [], places) :=
  ⟨[], by kernel_rfl⟩
set_option maxRecDepth 100000 in
theorem said_Roll : Rows.FnRollingUpSaid :=
  OpenClaim.holds_of_cond 5 Tryd.f5 rfl rfl rfl rfl rfl rfl rfl ⟨rfl, rfl, rfl, rfl, rfl⟩ rfl rfl rfl rfl rfl (by kernel_rfl) Tryd.func5 (by kernel_rfl)
    (of_decide_eq_true (by kernel_rfl)) (by unfold Func.isWrapper; first | (rw [if_pos (by decide +kernel)]; kernel_rfl) | (rw [if_neg (by decide +kernel)]; exact ⟨rfl, rfl⟩))
    (fun os started H enc _ F => by
      rw [OpenClaim.pre_eq_preRow]
      obtain ⟨places, hx⟩ := reads_Roll os enc
      exact law_card 5 Tryd.f5 Rows.fnRollingUpSpec 4 wRoll Tryd.func5 (by kernel_rfl) rfl
        (fun H ds h => by match ds, h with | [a, b, c, d], _ => rfl) (by kernel_rfl) Tryd.underlying4 (by decide +kernel) os started H enc F
        (witness_row_atRef (enc := enc) (C := Tryd.checked) false (laidWorld os) wRoll rfl (by kernel_rfl) (by kernel_rfl) (by kernel_rfl)
          (OpenSpec.preRow_of_cond 8 hx (by kernel_rfl) (fun k hk => by cases hk) (by kernel_rfl) (laidMet_Roll os)))
        (fun W base args ds p hval hA hwt hw => by
          rw [Tryd.params5] at hA hval
          obtain ⟨v0, vs0, d0, ds0, p0, q0, hargs, rfl, rfl, h0, r0⟩ := trodAll_cons hA
          obtain ⟨v1, vs1, d1, ds1, p1, q1, rfl, rfl, rfl, h1, r1⟩ := trodAll_cons r0
          obtain ⟨v2, vs2, d2, ds2, p2, q2, rfl, rfl, rfl, h2, r2⟩ := trodAll_cons r1
          obtain ⟨v3, vs3, d3, ds3, p3, q3, rfl, rfl, rfl, h3, r3⟩ := trodAll_cons r2
          obtain ⟨rfl, rfl, rfl⟩ := trodAll_nil r3
          obtain rfl : args = #[v0, v1, v2, v3] := by cases args; simp_all
          obtain ⟨n0, rfl, rfl, rfl, w0⟩ := open_int Tryd.underlying3 (hval 0 _ v0 rfl rfl) h0
          obtain ⟨n1, rfl, rfl, rfl, w1⟩ := open_int Tryd.underlying2 (hval 1 _ v1 rfl rfl) h1
          obtain ⟨a2, l2, c2, rfl⟩ := okWide_slice Tryd.underlying35 (hval 2 _ v2 rfl rfl)
          obtain ⟨f2, hf2⟩ := h2
          obtain ⟨xs2, hxs2⟩ := ints_opens enc W 0 _ true f2 _ _ hf2
          obtain ⟨a3, l3, c3, rfl⟩ := okWide_slice Tryd.underlying36 (hval 3 _ v3 rfl rfl)
          obtain ⟨f3, hf3⟩ := h3
          obtain ⟨xs3, hxs3⟩ := int64s_opens enc W 0 _ true f3 _ _ hf3
          exact walk_RollingUp n0 n1 xs2 _ xs3 _ W w0 w1 hxs2 hxs3 hw))
theorem plain_Roll (f : FuncId) (fn : Func) (hf : Tryd.pinned.checked.prog.funcNamed "pub-vicegerent/laws.FnRollingUp" = some f) (hfn : Tryd.pinned.checked.prog.funcs[f]? = some fn) :
    true = Tryd.pinned.checked.prog.looks [] ∧ ∀ (j : Nat) t, fn.params[j]? = some t → Tryd.pinned.checked.prog.wantsStandIn t = false := by
  obtain rfl : f = 5 := Option.some.inj ((show Tryd.prog.funcNamed "pub-vicegerent/laws.FnRollingUp" = some 5 by kernel_rfl).symm.trans hf) |>.symm
  obtain rfl : fn = Tryd.f5 := (Option.some.inj (Tryd.func5.symm.trans hfn)).symm
  refine ⟨by kernel_rfl, fun j t ht => ?_⟩
  rw [Tryd.params5] at ht
  have hmem := Array.mem_of_getElem? ht
  simp only [List.mem_toArray, List.mem_cons, List.mem_nil_iff, or_false] at hmem
  rcases hmem with rfl | rfl | rfl | rfl
  · exact (show Tryd.prog.wantsStandIn 3 = false by kernel_rfl)
  · exact (show Tryd.prog.wantsStandIn 2 = false by kernel_rfl)
  · exact (show Tryd.prog.wantsStandIn 35 = false by kernel_rfl)
  · exact (show Tryd.prog.wantsStandIn 36 = false by kernel_rfl)
theorem FnRollingUp_holds : Rows.FnRollingUpCardSaid :=
  Claim7.holds_tied_plain_at .later [] _ _ _ _ said_Roll (fun _ h => by cases h) (by kernel_rfl) (fun _ h => by cases h) fnRollingUp_row_tie rfl ⟨rfl, rfl⟩ (by kernel_rfl) rfl plain_Roll (by kernel_rfl)
#print axioms FnRollingUp_holds
end Go.Proofs.YtdokcengcekfgaaDoor
