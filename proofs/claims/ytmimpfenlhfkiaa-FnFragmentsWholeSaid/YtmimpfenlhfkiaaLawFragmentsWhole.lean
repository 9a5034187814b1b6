/-
  FnFragmentsWhole: for every response and every bound, its fragments have its events, in order, each once, and all else that it has. No condition.
-/
import Derived.Test.YtmimpfenlhfkiaaOpens
import Derived.Test.YtmimpfenlhfkiaaWhole
namespace Go.Proofs.Ytmimpfenlhfkiaa
open Go.ChangeShapes Go.WideShapes Go.ChangeAt Go.RowKit
set_option linter.unusedSimpArgs false
set_option linter.unusedVariables false

set_option maxRecDepth 100000 in
theorem FnFragmentsWhole_holds : Rows.FnFragmentsWholeSaid :=
  OpenClaim.holds_of_wide 4 Try.f4 rfl rfl rfl rfl rfl rfl rfl ⟨rfl, rfl, rfl, rfl, rfl⟩ rfl rfl rfl rfl rfl (by kernel_rfl) Try.func4 (by kernel_rfl)
    (of_decide_eq_true (by kernel_rfl)) (by unfold Func.isWrapper; first | (rw [if_pos (by decide +kernel)]; kernel_rfl) | (rw [if_neg (by decide +kernel)]; exact ⟨rfl, rfl⟩))
    (fun os started H enc _ => law_lifted 4 Try.f4 Rows.fnFragmentsWholeSpec 4 Try.func4 (by kernel_rfl) rfl
      (fun H ds h => by match ds, h with | [a, b], _ => rfl) (by kernel_rfl) Try.underlying4 laidOut (by decide +kernel) own os started H enc
      (ChangeSpec.witness6 (enc := enc) (C := Try.checked) false ⟨#[], #[.agg #[.int .i64 0, .int .i64 0, .int .i64 0, .bool false, .bool false, .bool false, .string ⟨#[]⟩, .slice none 0 0], .int .i64 0], []⟩ 8 (by kernel_rfl) (by kernel_rfl) (by kernel_rfl) (by kernel_rfl))
      (fun W base args ds p hval hA hwt => by
        rw [Try.params4] at hA hval
        obtain ⟨v0, vs0, d0, ds0, p0, q0, hargs, rfl, rfl, h0, r0⟩ := trodAll_cons hA
        obtain ⟨v1, vs1, d1, ds1, p1, q1, rfl, rfl, rfl, h1, r1⟩ := trodAll_cons r0
        obtain ⟨rfl, rfl, rfl⟩ := trodAll_nil r1
        obtain rfl : args = #[v0, v1] := by cases args; simp_all
        obtain ⟨x, A, cap, rfl, hl, hre, h⟩ := sent_arg (hval 0 _ v0 rfl rfl) h0
        obtain ⟨n1, rfl, rfl, rfl, w1⟩ := open_int Try.underlying3 (hval 1 _ v1 rfl rfl) h1
        exact walk_FragmentsWhole x A cap n1 W hl h))
#print axioms FnFragmentsWhole_holds
end Go.Proofs.Ytmimpfenlhfkiaa
