/-
  The stable sort of at most twelve hashes.
-/
import Derived.Test.YthnhgfpkmbgkdaaCw
namespace Go.Proofs.Ythnhgfpkmbgkdaa
open Go.RowKit
set_option linter.unusedSimpArgs false
set_option linter.unusedVariables false

theorem insR_mem (x : HsD) : ∀ (l : List HsD) (z : HsD), z ∈ insR x l ↔ z = x ∨ z ∈ l
  | [], z => by simp [insR]
  | y :: ys, z => by
    unfold insR
    split
    · rw [List.mem_cons, insR_mem x ys z, List.mem_cons]; exact ⟨fun h => h.elim (fun h => .inr (.inl h)) (fun h => h.elim .inl (fun h => .inr (.inr h))), fun h => h.elim (fun h => .inr (.inl h)) (fun h => h.elim .inl (fun h => .inr (.inr h)))⟩
    · simp only [List.mem_cons]
theorem insR_perm (x : HsD) : ∀ l : List HsD, (insR x l).Perm (x :: l)
  | [] => .refl _
  | y :: ys => by
    unfold insR
    split
    · exact ((insR_perm x ys).cons y).trans (.swap x y ys)
    · exact .refl _
theorem insR_sorted (x : HsD) : ∀ l : List HsD, l.Pairwise (fun a b => a.rev ≤ b.rev) → (insR x l).Pairwise (fun a b => a.rev ≤ b.rev)
  | [], _ => by simp [insR]
  | y :: ys, h => by
    rw [List.pairwise_cons] at h
    unfold insR
    split
    · rename_i hlt
      refine List.pairwise_cons.2 ⟨fun z hz => ?_, insR_sorted x ys h.2⟩
      rcases (insR_mem x ys z).1 hz with rfl | hz
      · omega
      · exact h.1 z hz
    · rename_i hlt
      refine List.pairwise_cons.2 ⟨fun z hz => ?_, List.pairwise_cons.2 h⟩
      rcases List.mem_cons.1 hz with rfl | hz
      · omega
      · have := h.1 z hz; omega
theorem foldR_sorted (l : List HsD) : ∀ r : List HsD, r.Pairwise (fun a b => a.rev ≤ b.rev) → (l.foldl (fun r x => insR x r) r).Pairwise (fun a b => a.rev ≤ b.rev) := by
  induction l with
  | nil => intro r h; exact h
  | cons x l ih => intro r h; exact ih _ (insR_sorted x r h)
theorem foldR_perm (l : List HsD) : ∀ r : List HsD, (l.foldl (fun r x => insR x r) r).Perm (l ++ r) := by
  induction l with
  | nil => intro r; exact .refl _
  | cons x l ih => intro r; exact (ih _).trans (((insR_perm x r).append_left l).trans List.perm_middle)
theorem sortD_sorted (l : List HsD) : (sortD l).Pairwise (fun a b => b.rev ≤ a.rev) := by
  unfold sortD; rw [List.pairwise_reverse]; exact foldR_sorted l [] .nil
theorem sortD_perm (l : List HsD) : (sortD l).Perm l := by
  unfold sortD; exact (List.reverse_perm _).trans ((foldR_perm l []).trans (by rw [List.append_nil]))
set_option maxRecDepth 20000 in
set_option maxHeartbeats 2000000 in
theorem stable_any (l : List HsD) (g cap : Nat) (rest : List Value) (w : World) (K : Blk w g 55 (flC l ++ rest)) (hl : l.length ≤ 12) :
    Calls Try.prog 66 #[.slice (some ⟨g, 0, none⟩) l.length cap, .int .i64 l.length, .func (.func 57) #[] #[]] w fun e w' => e = .returned (.tuple #[]) ∧ Blk w' g 55 (flC (sortD l) ++ rest) ∧ ExtX (fun k => k = g) w w' := by
  have t1 : ¬ ((20 : Int) ≤ (l.length : Int)) := by omega
  have t2 : ¬ ((20 : Int) < (l.length : Int)) := by omega
  have HK := Lib.hid K
  clear K
  go_enter Try.func66, Try.ntmps66
  go_wp2_with fail
  go_loopw [7, 8] (fun a b wr => a = .int .i64 0 ∧ b = .int .i64 20 ∧ wr = w) (fun _ _ _ => 0)
  case atStart => exact ⟨rfl, rfl, rfl⟩
  case round =>
    obtain ⟨rfl, rfl, rfl⟩ := hrel
    go_wp2_with fail
    refine (ins_any l g cap rest _ HK.out (by omega)).mono ?_
    rintro e w5 ⟨rfl, K5, X5⟩
    have K5 := Lib.hid K5
    go_wp2_with fail
    go_loopw [6] (fun a wr => a = .int .i64 20 ∧ wr = w5) (fun _ _ => 0)
    case atStart => exact ⟨rfl, rfl⟩
    case round =>
      obtain ⟨rfl, rfl⟩ := hrel
      go_wp2_with fail
      go_end0
      exact ⟨rfl, K5.out, X5⟩
set_option maxRecDepth 20000 in
theorem sort_any (l : List HsD) (g cap : Nat) (rest : List Value) (w : World) (K : Blk w g 55 (flC l ++ rest)) (hl : l.length ≤ 12) :
    Calls Try.prog 56 #[.slice (some ⟨g, 0, none⟩) l.length cap, .func (.func 57) #[] #[]] w fun e w' => e = .returned (.tuple #[]) ∧ Blk w' g 55 (flC (sortD l) ++ rest) ∧ ExtX (fun k => k = g) w w' := by
  go_enter Try.func56, Try.ntmps56
  go_wp2_with fail
  refine (stable_any l g cap rest _ K hl).mono ?_
  rintro e w5 ⟨rfl, K5, X5⟩
  go_wp2_with fail
  go_end0
  exact ⟨rfl, K5, X5⟩
/-- nothing to sort -/
theorem insN_any (F : Value) (w : World) : Calls Try.prog 71 #[.slice none 0 0, .int .i64 0, .int .i64 0, F] w fun e w' => e = .returned (.tuple #[]) ∧ w' = w := by
  go_enter Try.func71, Try.ntmps71
  go_wp2_with fail
  go_loopw [8] (fun a wr => a = .int .i64 1 ∧ wr = w) (fun _ _ => 0)
  case atStart => exact ⟨rfl, rfl⟩
  case round =>
    obtain ⟨rfl, rfl⟩ := hrel
    go_wp2_with fail
    go_end0
    exact ⟨rfl, rfl⟩
set_option maxRecDepth 20000 in
theorem stableN_any (F : Value) (w : World) : Calls Try.prog 66 #[.slice none 0 0, .int .i64 0, F] w fun e w' => e = .returned (.tuple #[]) ∧ w' = w := by
  go_enter Try.func66, Try.ntmps66
  go_wp2_with fail
  go_loopw [7, 8] (fun a b wr => a = .int .i64 0 ∧ b = .int .i64 20 ∧ wr = w) (fun _ _ _ => 0)
  case atStart => exact ⟨rfl, rfl, rfl⟩
  case round =>
    obtain ⟨rfl, rfl, rfl⟩ := hrel
    go_wp2_with fail
    refine (insN_any F _).mono ?_
    rintro e w5 ⟨rfl, rfl⟩
    go_wp2_with fail
    go_loopw [6] (fun a wr => a = .int .i64 20 ∧ wr = w5) (fun _ _ => 0)
    case atStart => exact ⟨rfl, rfl⟩
    case round =>
      obtain ⟨rfl, rfl⟩ := hrel
      go_wp2_with fail
      go_end0
      exact ⟨rfl, rfl⟩
theorem sortN_any (F : Value) (w : World) : Calls Try.prog 56 #[.slice none 0 0, F] w fun e w' => e = .returned (.tuple #[]) ∧ w' = w := by
  go_enter Try.func56, Try.ntmps56
  go_wp2_with fail
  refine (stableN_any F _).mono ?_
  rintro e w5 ⟨rfl, rfl⟩
  go_wp2_with fail
  go_end0
  exact ⟨rfl, rfl⟩
end Go.Proofs.Ythnhgfpkmbgkdaa
