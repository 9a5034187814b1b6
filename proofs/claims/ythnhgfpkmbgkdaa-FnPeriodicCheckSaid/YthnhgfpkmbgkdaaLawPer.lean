/-
  FnPeriodicCheck: the leader's check raises an alarm for itself, for the first peer that answers otherwise, or for nobody, as the reference says. No condition.
-/
import Derived.Test.YthnhgfpkmbgkdaaDj
namespace Go.Proofs.Ythnhgfpkmbgkdaa
open Go.ChangeShapes Go.WideShapes Go.ChangeAt Go.RowKit
set_option linter.unusedSimpArgs false
set_option linter.unusedVariables false

set_option maxRecDepth 100000 in
theorem FnPeriodicCheck_holds : Rows.FnPeriodicCheckSaid :=
  OpenClaim.holds_of_wide 6 Try.f6 rfl rfl rfl rfl rfl rfl rfl ⟨rfl, rfl, rfl, rfl, rfl⟩ rfl rfl rfl rfl rfl (by kernel_rfl) Try.func6 (by kernel_rfl)
    (of_decide_eq_true (by kernel_rfl)) (by unfold Func.isWrapper; first | (rw [if_pos (by decide +kernel)]; kernel_rfl) | (rw [if_neg (by decide +kernel)]; exact ⟨rfl, rfl⟩))
    (fun os started H enc _ => law_lifted 6 Try.f6 Rows.fnPeriodicCheckSpec 4 Try.func6 (by kernel_rfl) rfl
      (fun H ds h => by match ds, h with | [a, b, c, d, e], _ => rfl) (by kernel_rfl) Try.underlying4 laidOut (by decide +kernel) own os started H enc
      (ChangeSpec.witness6 (enc := enc) (C := Try.checked) false ⟨#[], #[.agg #[.int .u32 0, .int .i64 0, .int .i64 0], .agg #[.int .u32 0, .int .i64 0, .int .i64 0], .int .i64 0, .int .u64 0, .slice none 0 0], []⟩ 8 (by kernel_rfl) (by kernel_rfl) (by kernel_rfl) (by kernel_rfl))
      (fun W base args ds p hval hA hwt => by
        rw [Try.params6] at hA hval
        obtain ⟨v0, vs0, d0, ds0, p0, q0, hargs, rfl, rfl, h0, r0⟩ := trodAll_cons hA
        obtain ⟨v1, vs1, d1, ds1, p1, q1, rfl, rfl, rfl, h1, r1⟩ := trodAll_cons r0
        obtain ⟨v2, vs2, d2, ds2, p2, q2, rfl, rfl, rfl, h2, r2⟩ := trodAll_cons r1
        obtain ⟨v3, vs3, d3, ds3, p3, q3, rfl, rfl, rfl, h3, r3⟩ := trodAll_cons r2
        obtain ⟨v4, vs4, d4, ds4, p4, q4, rfl, rfl, rfl, h4, r4⟩ := trodAll_cons r3
        obtain ⟨rfl, rfl, rfl⟩ := trodAll_nil r4
        obtain rfl : args = #[v0, v1, v2, v3, v4] := by cases args; simp_all
        obtain ⟨x0, rfl, w0⟩ := hash_arg (hval 0 _ v0 rfl rfl) h0
        obtain ⟨x1, rfl, w1⟩ := hash_arg (hval 1 _ v1 rfl rfl) h1
        obtain ⟨n2, rfl, rfl, rfl, w2⟩ := open_int Try.underlying2 (hval 2 _ v2 rfl rfl) h2
        obtain ⟨n3, rfl, rfl, rfl, w3⟩ := open_int Try.underlying22 (hval 3 _ v3 rfl rfl) h3
        obtain ⟨a4, l4, c4, rfl⟩ := okWide_slice Try.underlying26 (hval 4 _ v4 rfl rfl)
        obtain ⟨f4, hf4⟩ := h4
        obtain ⟨xs4, hxs4⟩ := cks_opens enc W 0 _ true f4 _ _ hf4
        exact walk_PeriodicCheck x0 x1 n2 n3 xs4 _ W hxs4))
#print axioms FnPeriodicCheck_holds
end Go.Proofs.Ythnhgfpkmbgkdaa
