/-
  slices.Sort of no ID, or of one.
-/
import Derived.Test.YthnhgfpkmbgkdaaDf
import Derived.LoopN
namespace Go.Proofs.Ythnhgfpkmbgkdaa
open Go.RowKit
set_option linter.unusedSimpArgs false
set_option linter.unusedVariables false

set_option maxRecDepth 20000 in
theorem len64_0 (w : World) : Calls Try.prog 51 #[.int .u64 0] w fun e w' => e = .returned (.int .i64 0) ∧ w' = w := by
  go_enter Try.func51, Try.ntmps51
  go_wp2
  go_ret
  exact ⟨by kernel_rfl, rfl⟩
set_option maxRecDepth 20000 in
theorem len_0 (w : World) : Calls Try.prog 33 #[.int .u64 0] w fun e w' => e = .returned (.int .i64 0) ∧ w' = w := by
  go_enter Try.func33, Try.ntmps33
  go_wp2_with fail
  refine (len64_0 _).mono ?_
  rintro e w1 ⟨rfl, rfl⟩
  go_wp2_with fail
  go_ret
  exact ⟨rfl, rfl⟩
set_option maxRecDepth 20000 in
theorem insOrd_0 (v : Value) (w : World) : Calls Try.prog 41 #[v, .int .i64 0, .int .i64 0] w fun e w' => e = .returned (.tuple #[]) ∧ w' = w := by
  go_enter Try.func41, Try.ntmps41
  go_wp2_with fail
  refine wp_loop_rounds 1 ?_
  rw [rounds_succ]
  go_wp2_with fail
  go_end0
  exact ⟨rfl, rfl⟩
set_option maxRecDepth 20000 in
theorem pdq_0 (v : Value) (w : World) : Calls Try.prog 32 #[v, .int .i64 0, .int .i64 0, .int .i64 0] w fun e w' => e = .returned (.tuple #[]) ∧ w' = w := by
  go_enter Try.func32, Try.ntmps32
  go_wp2_with fail
  refine wp_loop_rounds 1 ?_
  rw [rounds_succ]
  go_wp2_with fail
  refine (insOrd_0 _ _).mono ?_
  rintro e w1 ⟨rfl, rfl⟩
  go_wp2_with fail
  refine bodyPost_ret (results_none rfl _ _ _) rfl ?_
  exact ⟨rfl, rfl⟩
set_option maxRecDepth 20000 in
theorem sortIDs_0 (A : Option Addr) (cap : Nat) (w : World) : Calls Try.prog 25 #[.slice A 0 cap] w fun e w' => e = .returned (.tuple #[]) ∧ w' = w := by
  go_enter Try.func25, Try.ntmps25
  go_wp2_with fail
  refine (len_0 _).mono ?_
  rintro e w1 ⟨rfl, rfl⟩
  go_wp2_with fail
  refine (pdq_0 _ _).mono ?_
  rintro e w1 ⟨rfl, rfl⟩
  go_wp2_with fail
  go_end0
  exact ⟨rfl, rfl⟩
set_option maxRecDepth 20000 in
theorem len64_1 (w : World) : Calls Try.prog 51 #[.int .u64 1] w fun e w' => e = .returned (.int .i64 1) ∧ w' = w := by
  go_enter Try.func51, Try.ntmps51
  go_wp2
  go_ret
  exact ⟨by kernel_rfl, rfl⟩
set_option maxRecDepth 20000 in
theorem len_1 (w : World) : Calls Try.prog 33 #[.int .u64 1] w fun e w' => e = .returned (.int .i64 1) ∧ w' = w := by
  go_enter Try.func33, Try.ntmps33
  go_wp2_with fail
  refine (len64_1 _).mono ?_
  rintro e w1 ⟨rfl, rfl⟩
  go_wp2_with fail
  go_ret
  exact ⟨rfl, rfl⟩
set_option maxRecDepth 20000 in
theorem insOrd_1 (v : Value) (w : World) : Calls Try.prog 41 #[v, .int .i64 0, .int .i64 1] w fun e w' => e = .returned (.tuple #[]) ∧ w' = w := by
  go_enter Try.func41, Try.ntmps41
  go_wp2_with fail
  refine wp_loop_rounds 1 ?_
  rw [rounds_succ]
  go_wp2_with fail
  go_end0
  exact ⟨rfl, rfl⟩
set_option maxRecDepth 20000 in
theorem pdq_1 (v : Value) (w : World) : Calls Try.prog 32 #[v, .int .i64 0, .int .i64 1, .int .i64 1] w fun e w' => e = .returned (.tuple #[]) ∧ w' = w := by
  go_enter Try.func32, Try.ntmps32
  go_wp2_with fail
  refine wp_loop_rounds 1 ?_
  rw [rounds_succ]
  go_wp2_with fail
  refine (insOrd_1 _ _).mono ?_
  rintro e w1 ⟨rfl, rfl⟩
  go_wp2_with fail
  refine bodyPost_ret (results_none rfl _ _ _) rfl ?_
  exact ⟨rfl, rfl⟩
set_option maxRecDepth 20000 in
theorem sortIDs_1 (A : Option Addr) (cap : Nat) (w : World) : Calls Try.prog 25 #[.slice A 1 cap] w fun e w' => e = .returned (.tuple #[]) ∧ w' = w := by
  go_enter Try.func25, Try.ntmps25
  go_wp2_with fail
  refine (len_1 _).mono ?_
  rintro e w1 ⟨rfl, rfl⟩
  go_wp2_with fail
  refine (pdq_1 _ _).mono ?_
  rintro e w1 ⟨rfl, rfl⟩
  go_wp2_with fail
  go_end0
  exact ⟨rfl, rfl⟩
/-- nothing is to be sorted -/
theorem sortIDs (A : Option Addr) (n cap : Nat) (hn : n ≤ 1) (w : World) : Calls Try.prog 25 #[.slice A n cap] w fun e w' => e = .returned (.tuple #[]) ∧ w' = w := by
  match n, hn with
  | 0, _ => exact sortIDs_0 A cap w
  | 1, _ => exact sortIDs_1 A cap w
end Go.Proofs.Ythnhgfpkmbgkdaa
