/-
  FnLruRecent: over every size and list of operations that add and get, what is in the cache at the end are the keys that were used last. No condition.
-/
import Derived.Test.YtphhkphibdiahaaLx
namespace Go.Proofs.Ytphhkphibdiahaa
open Go.ChangeShapes Go.WideShapes Go.ChangeAt Go.RowKit
set_option linter.unusedSimpArgs false
set_option linter.unusedVariables false

set_option maxRecDepth 100000 in
theorem FnLruRecent_holds : Rows.FnLruRecentSaid :=
  OpenClaim.holds_of_wide 4 Try.f4 rfl rfl rfl rfl rfl rfl rfl ⟨rfl, rfl, rfl, rfl, rfl⟩ rfl rfl rfl rfl rfl (by kernel_rfl) Try.func4 (by kernel_rfl)
    (of_decide_eq_true (by kernel_rfl)) (by unfold Func.isWrapper; first | (rw [if_pos (by decide +kernel)]; kernel_rfl) | (rw [if_neg (by decide +kernel)]; exact ⟨rfl, rfl⟩))
    (fun os started H enc _ => law_lifted 4 Try.f4 Rows.fnLruRecentSpec 4 Try.func4 (by kernel_rfl) rfl
      (fun H ds h => by match ds, h with | [a, b], _ => rfl) (by kernel_rfl) Try.underlying4 laidOut (by decide +kernel) own os started H enc
      (ChangeSpec.witness6 (enc := enc) (C := Try.checked) false ⟨#[], #[.int .i64 0, .slice none 0 0], []⟩ 8 (by kernel_rfl) (by kernel_rfl) (by kernel_rfl) (by kernel_rfl))
      (fun W base args ds p hval hA hwt => by
        rw [Try.params4] at hA hval
        obtain ⟨v0, vs0, d0, ds0, p0, q0, hargs, rfl, rfl, h0, r0⟩ := trodAll_cons hA
        obtain ⟨v1, vs1, d1, ds1, p1, q1, rfl, rfl, rfl, h1, r1⟩ := trodAll_cons r0
        obtain ⟨rfl, rfl, rfl⟩ := trodAll_nil r1
        obtain rfl : args = #[v0, v1] := by cases args; simp_all
        obtain ⟨n0, rfl, rfl, rfl, w0⟩ := open_int Try.underlying3 (hval 0 _ v0 rfl rfl) h0
        obtain ⟨a1, l1, c1, rfl⟩ := okWide_slice Try.underlying22 (hval 1 _ v1 rfl rfl)
        obtain ⟨f1, hf1⟩ := h1
        obtain ⟨xs1, hxs1⟩ := ops_opens enc W 0 _ true f1 _ _ hf1
        exact walk_LruRecent n0 xs1 _ W hxs1))
#print axioms FnLruRecent_holds
end Go.Proofs.Ytphhkphibdiahaa
