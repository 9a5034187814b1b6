/-
  FnCompactOnce: A revision that was right everywhere is not asked for again, nor any one below it; those above it are, from the greatest one down, till one is settled. No condition.
-/
import Derived.Test.YthnhgfpkmbgkdaaDq
namespace Go.Proofs.Ythnhgfpkmbgkdaa
open Go.ChangeShapes Go.WideShapes Go.ChangeAt Go.RowKit
set_option linter.unusedSimpArgs false
set_option linter.unusedVariables false

set_option maxRecDepth 100000 in
theorem FnCompactOnce_holds : Rows.FnCompactOnceSaid :=
  OpenClaim.holds_of_wide 3 Try.f3 rfl rfl rfl rfl rfl rfl rfl ⟨rfl, rfl, rfl, rfl, rfl⟩ rfl rfl rfl rfl rfl (by kernel_rfl) Try.func3 (by kernel_rfl)
    (of_decide_eq_true (by kernel_rfl)) (by unfold Func.isWrapper; first | (rw [if_pos (by decide +kernel)]; kernel_rfl) | (rw [if_neg (by decide +kernel)]; exact ⟨rfl, rfl⟩))
    (fun os started H enc _ => law_lifted 3 Try.f3 Rows.fnCompactOnceSpec 4 Try.func3 (by kernel_rfl) rfl
      (fun H ds h => by match ds, h with | [a, b, c, d], _ => rfl) (by kernel_rfl) Try.underlying4 laidOut (by decide +kernel) own os started H enc
      (ChangeSpec.witness6 (enc := enc) (C := Try.checked) false ⟨#[], #[.int .u64 0, .agg #[.int .u32 0, .int .i64 0, .int .i64 0], .slice none 0 0, .slice none 0 0], []⟩ 8 (by kernel_rfl) (by kernel_rfl) (by kernel_rfl) (by kernel_rfl))
      (fun W base args ds p hval hA hwt => by
        rw [Try.params3] at hA hval
        obtain ⟨v0, vs0, d0, ds0, p0, q0, hargs, rfl, rfl, h0, r0⟩ := trodAll_cons hA
        obtain ⟨v1, vs1, d1, ds1, p1, q1, rfl, rfl, rfl, h1, r1⟩ := trodAll_cons r0
        obtain ⟨v2, vs2, d2, ds2, p2, q2, rfl, rfl, rfl, h2, r2⟩ := trodAll_cons r1
        obtain ⟨v3, vs3, d3, ds3, p3, q3, rfl, rfl, rfl, h3, r3⟩ := trodAll_cons r2
        obtain ⟨rfl, rfl, rfl⟩ := trodAll_nil r3
        obtain rfl : args = #[v0, v1, v2, v3] := by cases args; simp_all
        obtain ⟨n0, rfl, rfl, rfl, w0⟩ := open_int Try.underlying22 (hval 0 _ v0 rfl rfl) h0
        obtain ⟨x1, rfl, w1⟩ := hash_arg (hval 1 _ v1 rfl rfl) h1
        obtain ⟨a2, l2, c2, rfl⟩ := okWide_slice Try.underlying26 (hval 2 _ v2 rfl rfl)
        obtain ⟨f2, hf2⟩ := h2
        obtain ⟨xs2, hxs2⟩ := cks_opens enc W 0 _ true f2 _ _ hf2
        obtain ⟨a3, l3, c3, rfl⟩ := okWide_slice Try.underlying27 (hval 3 _ v3 rfl rfl)
        obtain ⟨f3, hf3⟩ := h3
        obtain ⟨xs3, hxs3⟩ := i64s_opens enc W 0 _ true f3 _ _ hf3
        exact walk_CompactOnce n0 x1 xs2 _ xs3 _ W hxs2 hxs3 w1))
#print axioms FnCompactOnce_holds
end Go.Proofs.Ythnhgfpkmbgkdaa
