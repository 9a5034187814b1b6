/-
  FnPeriodicLies: where all peers but one are honest the check raises an alarm for this one. No condition.
-/
import Derived.Test.YthnhgfpkmbgkdaaDk
namespace Go.Proofs.Ythnhgfpkmbgkdaa
open Go.ChangeShapes Go.WideShapes Go.ChangeAt Go.RowKit
set_option linter.unusedSimpArgs false
set_option linter.unusedVariables false

set_option maxRecDepth 100000 in
theorem FnPeriodicLies_holds : Rows.FnPeriodicLiesSaid :=
  OpenClaim.holds_of_wide 7 Try.f7 rfl rfl rfl rfl rfl rfl rfl ⟨rfl, rfl, rfl, rfl, rfl⟩ rfl rfl rfl rfl rfl (by kernel_rfl) Try.func7 (by kernel_rfl)
    (of_decide_eq_true (by kernel_rfl)) (by unfold Func.isWrapper; first | (rw [if_pos (by decide +kernel)]; kernel_rfl) | (rw [if_neg (by decide +kernel)]; exact ⟨rfl, rfl⟩))
    (fun os started H enc _ => law_lifted 7 Try.f7 Rows.fnPeriodicLiesSpec 4 Try.func7 (by kernel_rfl) rfl
      (fun H ds h => by match ds, h with | [a, b, c, d, e, f, g], _ => rfl) (by kernel_rfl) Try.underlying4 laidOut (by decide +kernel) own os started H enc
      (ChangeSpec.witness6 (enc := enc) (C := Try.checked) false ⟨#[], #[.agg #[.int .u32 0, .int .i64 0, .int .i64 0], .int .i64 0, .int .u64 0, .slice none 0 0, .int .i64 0, .int .i64 0, .int .u32 0], []⟩ 8 (by kernel_rfl) (by kernel_rfl) (by kernel_rfl) (by kernel_rfl))
      (fun W base args ds p hval hA hwt => by
        rw [Try.params7] at hA hval
        obtain ⟨v0, vs0, d0, ds0, p0, q0, hargs, rfl, rfl, h0, r0⟩ := trodAll_cons hA
        obtain ⟨v1, vs1, d1, ds1, p1, q1, rfl, rfl, rfl, h1, r1⟩ := trodAll_cons r0
        obtain ⟨v2, vs2, d2, ds2, p2, q2, rfl, rfl, rfl, h2, r2⟩ := trodAll_cons r1
        obtain ⟨v3, vs3, d3, ds3, p3, q3, rfl, rfl, rfl, h3, r3⟩ := trodAll_cons r2
        obtain ⟨v4, vs4, d4, ds4, p4, q4, rfl, rfl, rfl, h4, r4⟩ := trodAll_cons r3
        obtain ⟨v5, vs5, d5, ds5, p5, q5, rfl, rfl, rfl, h5, r5⟩ := trodAll_cons r4
        obtain ⟨v6, vs6, d6, ds6, p6, q6, rfl, rfl, rfl, h6, r6⟩ := trodAll_cons r5
        obtain ⟨rfl, rfl, rfl⟩ := trodAll_nil r6
        obtain rfl : args = #[v0, v1, v2, v3, v4, v5, v6] := by cases args; simp_all
        obtain ⟨x0, rfl, w0⟩ := hash_arg (hval 0 _ v0 rfl rfl) h0
        obtain ⟨n1, rfl, rfl, rfl, w1⟩ := open_int Try.underlying2 (hval 1 _ v1 rfl rfl) h1
        obtain ⟨n2, rfl, rfl, rfl, w2⟩ := open_int Try.underlying22 (hval 2 _ v2 rfl rfl) h2
        obtain ⟨a3, l3, c3, rfl⟩ := okWide_slice Try.underlying26 (hval 3 _ v3 rfl rfl)
        obtain ⟨f3, hf3⟩ := h3
        obtain ⟨xs3, hxs3⟩ := cks_opens enc W 0 _ true f3 _ _ hf3
        obtain ⟨n4, rfl, rfl, rfl, w4⟩ := open_int Try.underlying3 (hval 4 _ v4 rfl rfl) h4
        obtain ⟨n5, rfl, rfl, rfl, w5⟩ := open_int Try.underlying3 (hval 5 _ v5 rfl rfl) h5
        obtain ⟨n6, rfl, rfl, rfl, w6⟩ := open_int Try.underlying23 (hval 6 _ v6 rfl rfl) h6
        exact walk_PeriodicLies x0 n1 n2 xs3 _ n4 n5 n6 W hxs3 w0 w1 w4 w5 w6))
#print axioms FnPeriodicLies_holds
end Go.Proofs.Ythnhgfpkmbgkdaa
