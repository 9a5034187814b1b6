/-
  FnRingQueue: for every kind, number of places, list of values and list of reads, what is read is what was written. No condition.
-/
import Derived.Test.YtgebafnbkglmaaaLawRing
namespace Go.Proofs.Ytgebafnbkglmaaa
open Go.ChangeShapes Go.WideShapes Go.ChangeAt Go.RowKit
set_option linter.unusedSimpArgs false
set_option linter.unusedVariables false

theorem own : ownKnob Try.prog.godebug = none := by kernel_rfl
theorem laidOut : laidOutB Try.prog = true := by kernel_rfl
theorem kInts_opens : Opens Try.prog 22 (Rp.slice (Rp.int .i64)) := Opens.slice Try.underlying22 (by kernel_rfl) (by decide) (Opens.int Try.underlying3)

set_option maxRecDepth 100000 in
theorem FnRingQueue_holds : Rows.FnRingQueueSaid :=
  OpenClaim.holds_of_wide 3 Try.f3 rfl rfl rfl rfl rfl rfl rfl ⟨rfl, rfl, rfl, rfl, rfl⟩ rfl rfl rfl rfl rfl (by kernel_rfl) Try.func3 (by kernel_rfl)
    (of_decide_eq_true (by kernel_rfl)) (by unfold Func.isWrapper; first | (rw [if_pos (by decide +kernel)]; kernel_rfl) | (rw [if_neg (by decide +kernel)]; exact ⟨rfl, rfl⟩))
    (fun os started H enc _ => law_lifted 3 Try.f3 Rows.fnRingQueueSpec 4 Try.func3 (by kernel_rfl) rfl
      (fun H ds h => by match ds, h with | [a, b, c, d, e], _ => rfl) (by kernel_rfl) Try.underlying4 laidOut (by decide +kernel) own os started H enc
      (ChangeSpec.witness6 (enc := enc) (C := Try.checked) false ⟨#[], #[.bool false, .int .i64 0, .int .i64 0, .slice none 0 0, .slice none 0 0], []⟩ 8 (by kernel_rfl) (by kernel_rfl) (by kernel_rfl) (by kernel_rfl))
      (fun W base args ds p hval hA _ => by
        rw [Try.params3] at hA hval
        obtain ⟨v0, vs0, d0, ds0, p0, q0, hargs, rfl, rfl, h0, r0⟩ := trodAll_cons hA
        obtain ⟨v1, vs1, d1, ds1, p1, q1, rfl, rfl, rfl, h1, r1⟩ := trodAll_cons r0
        obtain ⟨v2, vs2, d2, ds2, p2, q2, rfl, rfl, rfl, h2, r2⟩ := trodAll_cons r1
        obtain ⟨v3, vs3, d3, ds3, p3, q3, rfl, rfl, rfl, h3, r3⟩ := trodAll_cons r2
        obtain ⟨v4, vs4, d4, ds4, p4, q4, rfl, rfl, rfl, h4, r4⟩ := trodAll_cons r3
        obtain ⟨rfl, rfl, rfl⟩ := trodAll_nil r4
        obtain rfl : args = #[v0, v1, v2, v3, v4] := by cases args; simp_all
        obtain ⟨sh, rfl, rfl, rfl⟩ := open_bool Try.underlying4 (hval 0 _ v0 rfl rfl) h0
        obtain ⟨n, rfl, rfl, rfl, _⟩ := open_int Try.underlying3 (hval 1 _ v1 rfl rfl) h1
        obtain ⟨m, rfl, rfl, rfl, _⟩ := open_int Try.underlying3 (hval 2 _ v2 rfl rfl) h2
        obtain ⟨a3, l3, c3, rfl⟩ := okWide_slice Try.underlying22 (hval 3 _ v3 rfl rfl)
        obtain ⟨a4, l4, c4, rfl⟩ := okWide_slice Try.underlying22 (hval 4 _ v4 rfl rfl)
        obtain ⟨f3, hf3⟩ := h3
        obtain ⟨f4, hf4⟩ := h4
        obtain ⟨vals, hvals⟩ := kInts_opens enc W 0 _ true f3 _ _ hf3
        obtain ⟨rs, hrs⟩ := kInts_opens enc W 0 _ true f4 _ _ hf4
        exact walk_FnRingQueue sh n m _ _ vals rs W (slice_num hvals) (slice_num hrs)))
#print axioms FnRingQueue_holds
end Go.Proofs.Ytgebafnbkglmaaa
